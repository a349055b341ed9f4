import PyProof.Rows.All
import Wide.All
import OpenK.AllK
import Wide.FinOn
import PySem.Challenge.RW_to0014_01
set_option Elab.async false
set_option rowWalk.seconds 0
section
open PySem PySem.W PyProof.Rows PySem.W.X
namespace Mine
def vw : Program := { PySem.Challenge.pw_to0014_01 with main := { PySem.Challenge.pw_to0014_01.main with body := (((PySem.Challenge.pw_to0014_01.main.body.eraseIdx 62).eraseIdx 8).eraseIdx 5).eraseIdx 1 } }
theorem of_cut {p q : Program} {loose : List Str} {Xt : Shared → Bool} {α : Type} {Yf : Shared → α} {Ya : World → α} {N : Nat} {g0 : Bool} {H₀ H₁ H₂ H₃ H₄ : World → Heap} {gs : Array GenState} {d : Drawn}
    {k₀ k₁ k₂ k₃ k₄ m₀ n₁ n₂ n₃ n₄ M : Nat} {ann : Option Value} {l l₂ l₃ : List Stmt} {env : Env} {c : Code} {fp p₁ p₂ p₃ p₄ : Pos}
    (open_ : ∀ w : World, (fencedOpening treeTable p w N).map (fun s => (s.heap, s.gens, s.drawn, s.toks)) = some (H₀ w, gs, d, k₀))
    (size : ∀ w : World, ((H₀ w).isNs mainGlobals && gs.size == 0, (H₀ w).objs.size, (H₀ w).nsMap mainGlobals "__annotations__") = (true, m₀, ann))
    (pre_ : ∀ (w : World) (os : OsState), topGo treeTable p w m₀ ann n₁ ⟨H₀ w, gs, d, k₀, os⟩ (topStub p) = some (⟨H₁ w, gs, d, k₁, os⟩, ⟨denote treeTable (.body (l ++ (l₂ ++ (l₃ ++ []))) env), c, p₁, [topFrame fp]⟩))
    (block : ∀ (w : World) (os : OsState), segRun treeTable p w m₀ ann 1 1 ⟨H₁ w, gs, d, k₁, os⟩ (blockOf (l ++ (l₂ ++ (l₃ ++ []))) env c p₁ [topFrame fp]) = some (.next, ⟨H₁ w, gs, d, k₁, os⟩, c, p₁))
    (mid : ∀ (w : World) (os : OsState), segRun treeTable p w m₀ ann 1 n₂ ⟨H₁ w, gs, d, k₁, os⟩ (piecesOf l env c p₁ [topFrame fp]) = some (.next, ⟨H₂ w, gs, d, k₂, os⟩, c, p₂))
    (mid2 : ∀ (w : World) (os : OsState), segRun treeTable p w m₀ ann 1 n₃ ⟨H₂ w, gs, d, k₂, os⟩ (piecesOf l₂ env c p₂ [topFrame fp]) = some (.next, ⟨H₃ w, gs, d, k₃, os⟩, c, p₃))
    (mid3 : ∀ (w : World) (os : OsState), segRun treeTable p w m₀ ann 1 n₄ ⟨H₃ w, gs, d, k₃, os⟩ (piecesOf l₃ env c p₃ [topFrame fp]) = some (.next, ⟨H₄ w, gs, d, k₄, os⟩, c, p₄))
    (fin : ∀ (w : World) (os : OsState), topRun treeTable p w m₀ ann M ⟨H₄ w, gs, d, k₄, os⟩ (restOf [] env c p₄ [topFrame fp]) = some ⟨H₄ w, gs, d, k₄, os⟩)
    (le : Nat.ble (n₁ + (1 + (n₂ + (n₃ + (n₄ + M))))) N = true)
    (l1 : ∀ (w : World) (os : OsState), (staticsOk (importedModules p.main.body) (H₀ w) (H₄ w) && namesBound p (H₄ w) && gensDone ⟨H₄ w, gs, d, k₄, os⟩ && laidKept (H₀ w) (H₄ w)) = true)
    (l2 : ∀ (w : World) (os : OsState), openSeen q loose (importedModules p.main.body) Xt g0 ⟨H₄ w, gs, d, k₄, os⟩ = openGood q loose)
    (l3 : ∀ (w : World) (os : OsState), Yf ⟨H₄ w, gs, d, k₄, os⟩ = Ya w) : LeftO p q loose Xt Yf Ya N g0 := fun w => by
  obtain ⟨⟨h, gs', d', k, os⟩, e, e'⟩ := Option.map_eq_some_iff.mp (open_ w)
  obtain ⟨rfl, rfl, rfl, rfl⟩ : h = H₀ w ∧ gs' = gs ∧ d' = d ∧ k = k₀ := by simpa using e'
  obtain ⟨z1, z2, z3⟩ : _ ∧ _ ∧ _ := by simpa only [Prod.mk.injEq] using size w
  have r2 := go_top (pre_ w os) (piece_block (block w os) (piece_app (mid w os) (piece_app (mid2 w os) (piece_app (mid3 w os) (fin w os)))))
  have r3 := topRun_mono (N - (n₁ + (1 + (n₂ + (n₃ + (n₄ + M)))))) _ _ _ _ r2
  rw [show n₁ + (1 + (n₂ + (n₃ + (n₄ + M)))) + (N - (n₁ + (1 + (n₂ + (n₃ + (n₄ + M)))))) = N by have := Nat.le_of_ble_eq_true le; omega] at r3
  have t : topFrom treeTable p w N ⟨H₀ w, gs', d', k, os⟩ = some ⟨H₄ w, gs', d', k₄, os⟩ := by
    unfold topFrom
    dsimp only
    rw [z1, z2, z3, r3]
    show (match staticsOk (importedModules p.main.body) (H₀ w) (H₄ w) && namesBound p (H₄ w) && gensDone ⟨H₄ w, gs', d', k₄, os⟩ && laidKept (H₀ w) (H₄ w) with | true => _ | false => _) = _
    rw [l1 w os]
  unfold openEnds
  rw [e]
  show (topFrom treeTable p w N _).map _ = _
  rw [t]
  exact congrArg some (Prod.ext (l2 w os) (l3 w os))
set_option maxRecDepth 100000 in
set_option maxHeartbeats 0 in
theorem said : PySem.Challenge.rw_to0014_01.wellSaid = true := by
  unfold OpenLaw.wellSaid OpenRow.wellSaid OpenRow.partSaid looksOpen
  repeat' with_reducible refine look_both ?_ ?_
  all_goals decide +kernel
section
local macro_rules | `(tactic| o_head (kHook $_ $_ $_)) => `(tactic| assumption)
set_option maxRecDepth 100000 in
set_option maxHeartbeats 0 in
theorem pre (h : PySem.Challenge.rw_to0014_01.row.Holds) : PySem.Challenge.rw_to0014_01.row.Holds := by k_head
end
noncomputable def ko (P : Params) (a : Nat) : Obj := (((pre.heap_1 P).find? fun x => Nat.beq x.1 a).map (·.2)).getD default
def tm (o : Obj) : Obj := { cls := .none, data := match o.data with
  | .func f => .func { name := f.name, qualname := f.qualname, params := f.params, body := f.body, scope := f.scope, globals := 0, closure := [], defaults := .none, kwdefaults := .none }
  | x => x }
def ns3 (o : Obj) (n : Nat) (v : Value) : Obj := { o with data := match o.data with
  | .dict es _ => .dict ⟨match es.toList with
    | e :: r => { e with val := v } :: r.take (n - 1)
    | [] => []⟩ n
  | x => x }
def part (o : Obj) (a b : Nat) : Obj := { o with data := match o.data with
  | .dict es _ => .dict ⟨(es.toList.drop a).take (b - a)⟩ (b - a)
  | x => x }
def ob1 (P : Params) : Obj := { cls := Value.type "dict", data := Data.dict #[{ hash := PyData.keyHash P (Str.ofString "builtins"), key := Value.str (Str.ofString "builtins") 162, val := Value.ref 4 }, { hash := PyData.keyHash P (Str.ofString "__main__"), key := Value.str (Str.ofString "__main__") 163, val := Value.ref 5 }, { hash := PyData.keyHash P (Str.ofString "_sre"), key := Value.str (Str.ofString "_sre") 244, val := Value.ref 12 }] 3 } 
def opened (w : World) : Heap := match fencedOpening treeTable PySem.Challenge.rw_to0014_01.row.toRowW.prog w 4152 with
  | some s => s.heap
  | none => {}
def oo (w : World) (i : Nat) : Obj := ((opened w).objs.toList[i]?).getD default
def life0 : Life := { }
noncomputable def hp0 (w : World) : Heap := ⟨#[boot_o_0 w.params, ob1 w.params, ko w.params 2, ns3 (ko w.params 3) 10 (.str (Str.ofString "__main__") 164), boot_o_4 w.params, boot_o_5 w.params, ko w.params 6, ko w.params 32, boot_o_8 w.params, boot_o_9 w.params, boot_o_10 w.params, ko w.params 11, ko w.params 12, oo w 13, oo w 14, ko w.params 32, oo w 16, oo w 17, oo w 18, oo w 19, oo w 20, oo w 21, oo w 22, oo w 23, oo w 24, oo w 25, oo w 26, oo w 27], life0⟩
noncomputable def hp1 (w : World) : Heap := ⟨#[boot_o_0 w.params, ob1 w.params, ko w.params 2, ns3 (ko w.params 3) 10 (.str (Str.ofString "__main__") 164), boot_o_4 w.params, boot_o_5 w.params, ko w.params 6, ko w.params 32, boot_o_8 w.params, boot_o_9 w.params, boot_o_10 w.params, ko w.params 11, ko w.params 12, oo w 13, oo w 14, ko w.params 32, oo w 16, oo w 17, oo w 18, oo w 19, oo w 20, oo w 21, oo w 22, oo w 23, oo w 24, oo w 25, oo w 26, oo w 27, ko w.params 32, { cls := Value.none, data := Data.fields #[] }, { cls := Value.type "code", data := Data.fields #[Value.str (Str.ofString "<module>") 277, Value.str (Str.ofString "<module>") 278, Value.str (Str.ofString "/claim/cut.py") 279, Value.int 1 0, Value.int 0 0, Value.int 0 0, Value.int 0 0, Value.int 0 0, Value.ref 28, Value.bool false, Value.int 276 0, Value.ref 29, Value.none, Value.none, Value.none, Value.none, Value.int 280 0, Value.int 1 0, Value.str (Str.ofString "/claim/cut.py") 281] }, { cls := Value.type "frame", slots := #[some (Value.ref 30), some (Value.ref 3), some (Value.ref 3), none, some (Value.str (Str.ofString "__main__") 164), none, some (Value.ref 0)] }], life0⟩
noncomputable def hp2 (w : World) : Heap := ⟨#[boot_o_0 w.params, ob1 w.params, ko w.params 2, ns3 (ko w.params 3) 67 (.str (Str.ofString "cpy313.smtplib") 322), boot_o_4 w.params, boot_o_5 w.params, ko w.params 6, ko w.params 32, boot_o_8 w.params, boot_o_9 w.params, boot_o_10 w.params, ko w.params 11, ko w.params 12, oo w 13, oo w 14, ko w.params 32, oo w 16, oo w 17, oo w 18, oo w 19, oo w 20, oo w 21, oo w 22, oo w 23, oo w 24, oo w 25, oo w 26, oo w 27, ko w.params 32, { cls := Value.none, data := Data.fields #[Value.int 3 0, Value.int 0 0, Value.ref 37, Value.int 5 0, Value.int 0 0, Value.ref 44, Value.int 7 0, Value.int 0 0, Value.ref 51, Value.int 15 0, Value.int 0 0, Value.ref 58, Value.int 31 0, Value.int 0 0, Value.ref 75] }, { cls := Value.type "code", data := Data.fields #[Value.str (Str.ofString "<module>") 277, Value.str (Str.ofString "<module>") 278, Value.str (Str.ofString "/claim/cut.py") 279, Value.int 1 0, Value.int 0 0, Value.int 0 0, Value.int 0 0, Value.int 0 0, Value.ref 28, Value.bool false, Value.int 276 0, Value.ref 29, Value.none, Value.none, Value.none, Value.none, Value.int 280 0, Value.int 1 0, Value.str (Str.ofString "/claim/cut.py") 281] }, { cls := Value.type "frame", slots := #[some (Value.ref 30), some (Value.ref 3), some (Value.ref 3), none, some (Value.str (Str.ofString "__main__") 164), none, some (Value.ref 0)] }, ko w.params 32, { cls := Value.none, data := Data.fields #[] }, ko w.params 34, ko w.params 32, tm (ko w.params 38), ko w.params 37, ko w.params 38, ko w.params 32, { cls := Value.none, data := Data.fields #[] }, ko w.params 41, ko w.params 32, tm (ko w.params 45), ko w.params 44, ko w.params 45, ko w.params 32, { cls := Value.none, data := Data.fields #[] }, ko w.params 48, ko w.params 32, tm (ko w.params 52), ko w.params 51, ko w.params 52, ko w.params 32, { cls := Value.none, data := Data.fields #[] }, ko w.params 55, ko w.params 32, tm (ko w.params 59), ko w.params 58, ko w.params 59, { cls := Value.type "list", data := Data.seq #[Value.int 14 327, Value.int 4 328, Value.int 0 329, Value.int 1 330, Value.int 1 331, Value.int 6 332, Value.int 1 333, Value.int 16 334, Value.int 46 335, Value.int 1 336] }, ko w.params 6, { cls := Value.type "tuple", data := Data.seq #[Value.none] }, ko w.params 63, ko w.params 64, { cls := Value.type "list", data := Data.seq #[Value.int 14 343, Value.int 9 344, Value.int 4 345, Value.int 1 346, Value.int 2 347, Value.int 16 348, Value.int 10 349, Value.int 16 350, Value.int 13 351, Value.int 0 352, Value.int 7 353, Value.int 7 354, Value.int 16 355, Value.int 13 356, Value.int 16 357, Value.int 10 358, Value.int 15 359, Value.int 18 360, Value.int 5 361, Value.int 16 362, Value.int 10 363, Value.int 15 364, Value.int 13 365, Value.int 11 366, Value.int 16 367, Value.int 13 368, Value.int 5 369, Value.int 5 370, Value.int 0 371, Value.int 16 372, Value.int 10 373, Value.int 1 374, Value.int 15 375, Value.int 2 376, Value.int 0 377, Value.int 1 378] }, ko w.params 6, { cls := Value.type "tuple", data := Data.seq #[Value.none] }, ko w.params 68, ko w.params 69, ko w.params 32, { cls := Value.none, data := Data.fields #[] }, ko w.params 72, ko w.params 32, tm (ko w.params 76), ko w.params 75, ko w.params 76], life0⟩
noncomputable def hp3 (w : World) : Heap := ⟨#[boot_o_0 w.params, ob1 w.params, ko w.params 2, ns3 (ko w.params 3) 68 (.str (Str.ofString "cpy313.smtplib") 322), boot_o_4 w.params, boot_o_5 w.params, ko w.params 6, ko w.params 32, boot_o_8 w.params, boot_o_9 w.params, boot_o_10 w.params, ko w.params 11, ko w.params 12, oo w 13, oo w 14, ko w.params 32, oo w 16, oo w 17, oo w 18, oo w 19, oo w 20, oo w 21, oo w 22, oo w 23, oo w 24, oo w 25, oo w 26, oo w 27, ko w.params 32, { cls := Value.none, data := Data.fields #[Value.int 3 0, Value.int 0 0, Value.ref 37, Value.int 5 0, Value.int 0 0, Value.ref 44, Value.int 7 0, Value.int 0 0, Value.ref 51, Value.int 15 0, Value.int 0 0, Value.ref 58, Value.int 31 0, Value.int 0 0, Value.ref 75] }, { cls := Value.type "code", data := Data.fields #[Value.str (Str.ofString "<module>") 277, Value.str (Str.ofString "<module>") 278, Value.str (Str.ofString "/claim/cut.py") 279, Value.int 1 0, Value.int 0 0, Value.int 0 0, Value.int 0 0, Value.int 0 0, Value.ref 28, Value.bool false, Value.int 276 0, Value.ref 29, Value.none, Value.none, Value.none, Value.none, Value.int 280 0, Value.int 1 0, Value.str (Str.ofString "/claim/cut.py") 281] }, { cls := Value.type "frame", slots := #[some (Value.ref 30), some (Value.ref 3), some (Value.ref 3), none, some (Value.str (Str.ofString "__main__") 164), none, some (Value.ref 0)] }, ko w.params 32, { cls := Value.none, data := Data.fields #[] }, ko w.params 34, ko w.params 32, tm (ko w.params 38), ko w.params 37, ko w.params 38, ko w.params 32, { cls := Value.none, data := Data.fields #[] }, ko w.params 41, ko w.params 32, tm (ko w.params 45), ko w.params 44, ko w.params 45, ko w.params 32, { cls := Value.none, data := Data.fields #[] }, ko w.params 48, ko w.params 32, tm (ko w.params 52), ko w.params 51, ko w.params 52, ko w.params 32, { cls := Value.none, data := Data.fields #[] }, ko w.params 55, ko w.params 32, tm (ko w.params 59), ko w.params 58, ko w.params 59, { cls := Value.type "list", data := Data.seq #[Value.int 14 327, Value.int 4 328, Value.int 0 329, Value.int 1 330, Value.int 1 331, Value.int 6 332, Value.int 1 333, Value.int 16 334, Value.int 46 335, Value.int 1 336] }, ko w.params 6, { cls := Value.type "tuple", data := Data.seq #[Value.none] }, ko w.params 63, ko w.params 64, { cls := Value.type "list", data := Data.seq #[Value.int 14 343, Value.int 9 344, Value.int 4 345, Value.int 1 346, Value.int 2 347, Value.int 16 348, Value.int 10 349, Value.int 16 350, Value.int 13 351, Value.int 0 352, Value.int 7 353, Value.int 7 354, Value.int 16 355, Value.int 13 356, Value.int 16 357, Value.int 10 358, Value.int 15 359, Value.int 18 360, Value.int 5 361, Value.int 16 362, Value.int 10 363, Value.int 15 364, Value.int 13 365, Value.int 11 366, Value.int 16 367, Value.int 13 368, Value.int 5 369, Value.int 5 370, Value.int 0 371, Value.int 16 372, Value.int 10 373, Value.int 1 374, Value.int 15 375, Value.int 2 376, Value.int 0 377, Value.int 1 378] }, ko w.params 6, { cls := Value.type "tuple", data := Data.seq #[Value.none] }, ko w.params 68, ko w.params 69, ko w.params 32, { cls := Value.none, data := Data.fields #[] }, ko w.params 72, ko w.params 32, tm (ko w.params 76), ko w.params 75, ko w.params 76, ko w.params 77, part (ko w.params 77) 17 34, part (ko w.params 77) 34 48], life0⟩
noncomputable def hp4 (w : World) : Heap := ⟨#[boot_o_0 w.params, ob1 w.params, ko w.params 2, ko w.params 3, boot_o_4 w.params, boot_o_5 w.params, ko w.params 6, ko w.params 32, boot_o_8 w.params, boot_o_9 w.params, boot_o_10 w.params, ko w.params 11, ko w.params 12, oo w 13, oo w 14, ko w.params 32, oo w 16, oo w 17, oo w 18, oo w 19, oo w 20, oo w 21, oo w 22, oo w 23, oo w 24, oo w 25, oo w 26, oo w 27, ko w.params 32, { cls := Value.none, data := Data.fields #[Value.int 3 0, Value.int 0 0, Value.ref 37, Value.int 5 0, Value.int 0 0, Value.ref 44, Value.int 7 0, Value.int 0 0, Value.ref 51, Value.int 15 0, Value.int 0 0, Value.ref 58, Value.int 31 0, Value.int 0 0, Value.ref 75, Value.int 83 0, Value.int 0 0, Value.ref 83, Value.int 86 0, Value.int 0 0, Value.ref 88, Value.int 92 0, Value.int 0 0, Value.ref 93, Value.int 97 0, Value.int 0 0, Value.ref 100, Value.int 103 0, Value.int 0 0, Value.ref 105, Value.int 110 0, Value.int 0 0, Value.ref 112, Value.int 113 0, Value.int 0 0, Value.ref 119, Value.int 119 0, Value.int 0 0, Value.ref 124, Value.int 131 0, Value.int 0 0, Value.ref 129] }, { cls := Value.type "code", data := Data.fields #[Value.str (Str.ofString "<module>") 277, Value.str (Str.ofString "<module>") 278, Value.str (Str.ofString "/claim/cut.py") 279, Value.int 1 0, Value.int 0 0, Value.int 0 0, Value.int 0 0, Value.int 0 0, Value.ref 28, Value.bool false, Value.int 276 0, Value.ref 29, Value.none, Value.none, Value.none, Value.none, Value.int 280 0, Value.int 1 0, Value.str (Str.ofString "/claim/cut.py") 281] }, { cls := Value.type "frame", slots := #[some (Value.ref 30), some (Value.ref 3), some (Value.ref 3), none, some (Value.str (Str.ofString "__main__") 164), none, some (Value.ref 0)] }, ko w.params 32, { cls := Value.none, data := Data.fields #[] }, ko w.params 34, ko w.params 32, tm (ko w.params 38), ko w.params 37, ko w.params 38, ko w.params 32, { cls := Value.none, data := Data.fields #[] }, ko w.params 41, ko w.params 32, tm (ko w.params 45), ko w.params 44, ko w.params 45, ko w.params 32, { cls := Value.none, data := Data.fields #[] }, ko w.params 48, ko w.params 32, tm (ko w.params 52), ko w.params 51, ko w.params 52, ko w.params 32, { cls := Value.none, data := Data.fields #[] }, ko w.params 55, ko w.params 32, tm (ko w.params 59), ko w.params 58, ko w.params 59, { cls := Value.type "list", data := Data.seq #[Value.int 14 327, Value.int 4 328, Value.int 0 329, Value.int 1 330, Value.int 1 331, Value.int 6 332, Value.int 1 333, Value.int 16 334, Value.int 46 335, Value.int 1 336] }, ko w.params 6, { cls := Value.type "tuple", data := Data.seq #[Value.none] }, ko w.params 63, ko w.params 64, { cls := Value.type "list", data := Data.seq #[Value.int 14 343, Value.int 9 344, Value.int 4 345, Value.int 1 346, Value.int 2 347, Value.int 16 348, Value.int 10 349, Value.int 16 350, Value.int 13 351, Value.int 0 352, Value.int 7 353, Value.int 7 354, Value.int 16 355, Value.int 13 356, Value.int 16 357, Value.int 10 358, Value.int 15 359, Value.int 18 360, Value.int 5 361, Value.int 16 362, Value.int 10 363, Value.int 15 364, Value.int 13 365, Value.int 11 366, Value.int 16 367, Value.int 13 368, Value.int 5 369, Value.int 5 370, Value.int 0 371, Value.int 16 372, Value.int 10 373, Value.int 1 374, Value.int 15 375, Value.int 2 376, Value.int 0 377, Value.int 1 378] }, ko w.params 6, { cls := Value.type "tuple", data := Data.seq #[Value.none] }, ko w.params 68, ko w.params 69, ko w.params 32, { cls := Value.none, data := Data.fields #[] }, ko w.params 72, ko w.params 32, tm (ko w.params 76), ko w.params 75, ko w.params 76, ko w.params 77, part (ko w.params 77) 17 34, part (ko w.params 77) 34 48, ko w.params 32, { cls := Value.none, data := Data.fields #[] }, tm (ko w.params 84), ko w.params 83, ko w.params 84, ko w.params 32, { cls := Value.none, data := Data.fields #[] }, tm (ko w.params 89), ko w.params 88, ko w.params 89, ko w.params 32, { cls := Value.none, data := Data.fields #[] }, tm (ko w.params 94), ko w.params 93, ko w.params 94, ko w.params 32, { cls := Value.none, data := Data.fields #[] }, ko w.params 97, ko w.params 32, tm (ko w.params 101), ko w.params 100, ko w.params 101, ko w.params 32, { cls := Value.none, data := Data.fields #[] }, tm (ko w.params 106), ko w.params 105, ko w.params 106, ko w.params 32, { cls := Value.none, data := Data.fields #[] }, ko w.params 109, ko w.params 32, tm (ko w.params 113), ko w.params 112, ko w.params 113, ko w.params 32, { cls := Value.none, data := Data.fields #[] }, ko w.params 116, ko w.params 32, tm (ko w.params 120), ko w.params 119, ko w.params 120, ko w.params 32, { cls := Value.none, data := Data.fields #[] }, tm (ko w.params 125), ko w.params 124, ko w.params 125, ko w.params 32, { cls := Value.none, data := Data.fields #[] }, tm (ko w.params 130), ko w.params 129, ko w.params 130], life0⟩
def envA : Env := { scope := PySem.Challenge.rw_to0014_01.row.toRowW.prog.main.scope, locals := mainNs, globals := mainNs, cells := [], code := .ref 30, frame := some 31 }
def bodA : List Stmt := (behindTheImports PySem.Challenge.rw_to0014_01.row.toRowW.prog).take 60
def bodB : List Stmt := (behindTheImports PySem.Challenge.rw_to0014_01.row.toRowW.prog).drop 60
def bodC : List Stmt := bodB.take 1
def bodD : List Stmt := bodB.drop 1
abbrev codA : Code := .body (bodA ++ (bodC ++ (bodD ++ []))) envA
def posB : Pos := { line := 80, col := 0, endLine := 80, endCol := 11 }
def posC : Pos := { line := 81, col := 0, endLine := 81, endCol := 17 }
def posD : Pos := { line := 131, col := 0, endLine := 145, endCol := 55 }
noncomputable abbrev st4 (w : World) (os : OsState) : Shared := ⟨hp4 w, #[], {}, 654, os⟩
theorem cutOpen (w : World) : (fencedOpening treeTable PySem.Challenge.rw_to0014_01.row.toRowW.prog w 4152).map (fun s => (s.heap, s.gens, s.drawn, s.toks)) = some (hp0 w, #[], {}, 276) := by kernel_rfl
theorem cutSize (w : World) : ((hp0 w).isNs mainGlobals && (#[] : Array GenState).size == 0, (hp0 w).objs.size, (hp0 w).nsMap mainGlobals "__annotations__") = (true, 28, (some (Value.ref 6))) := by kernel_rfl
theorem cutPre (w : World) (os : OsState) : topGo treeTable PySem.Challenge.rw_to0014_01.row.toRowW.prog w 28 (some (Value.ref 6)) 12 ⟨hp0 w, #[], {}, 276, os⟩ (topStub PySem.Challenge.rw_to0014_01.row.toRowW.prog) = some (⟨hp1 w, #[], {}, 282, os⟩, ⟨denote treeTable codA, codA, default, [topFrame default]⟩) := by kernel_rfl
theorem cutBlock (w : World) (os : OsState) : segRun treeTable PySem.Challenge.rw_to0014_01.row.toRowW.prog w 28 (some (Value.ref 6)) 1 1 ⟨hp1 w, #[], {}, 282, os⟩ (blockOf (bodA ++ (bodC ++ (bodD ++ []))) envA codA default [topFrame default]) = some (.next, ⟨hp1 w, #[], {}, 282, os⟩, codA, default) := by kernel_rfl
theorem cutA (w : World) (os : OsState) : segRun treeTable PySem.Challenge.rw_to0014_01.row.toRowW.prog w 28 (some (Value.ref 6)) 1 800 ⟨hp1 w, #[], {}, 282, os⟩ (piecesOf bodA envA codA default [topFrame default]) = some (.next, ⟨hp2 w, #[], {}, 487, os⟩, codA, posB) := by kernel_rfl
theorem cutB_false (w : World) (os : OsState) : segRun treeTable PySem.Challenge.rw_to0014_01.row.toRowW.prog (w.withFollow "special-get-raises" false) 28 (some (Value.ref 6)) 1 1000 ⟨hp2 (w.withFollow "special-get-raises" false), #[], {}, 487, os⟩ (piecesOf bodC envA codA posB [topFrame default]) = some (.next, ⟨hp3 (w.withFollow "special-get-raises" false), #[], {}, 584, os⟩, codA, posC) := by kernel_rfl
theorem cutB_true (w : World) (os : OsState) : segRun treeTable PySem.Challenge.rw_to0014_01.row.toRowW.prog (w.withFollow "special-get-raises" true) 28 (some (Value.ref 6)) 1 1000 ⟨hp2 (w.withFollow "special-get-raises" true), #[], {}, 487, os⟩ (piecesOf bodC envA codA posB [topFrame default]) = some (.next, ⟨hp3 (w.withFollow "special-get-raises" true), #[], {}, 584, os⟩, codA, posC) := by kernel_rfl
theorem cutB (w : World) (os : OsState) : segRun treeTable PySem.Challenge.rw_to0014_01.row.toRowW.prog w 28 (some (Value.ref 6)) 1 1000 ⟨hp2 w, #[], {}, 487, os⟩ (piecesOf bodC envA codA posB [topFrame default]) = some (.next, ⟨hp3 w, #[], {}, 584, os⟩, codA, posC) :=
  byRow2 "special-get-raises" (P := fun w => segRun treeTable PySem.Challenge.rw_to0014_01.row.toRowW.prog w 28 (some (Value.ref 6)) 1 1000 ⟨hp2 w, #[], {}, 487, os⟩ (piecesOf bodC envA codA posB [topFrame default]) = some (.next, ⟨hp3 w, #[], {}, 584, os⟩, codA, posC)) (fun w => cutB_false w os) (fun w => cutB_true w os) w
theorem cutD (w : World) (os : OsState) : segRun treeTable PySem.Challenge.rw_to0014_01.row.toRowW.prog w 28 (some (Value.ref 6)) 1 300 ⟨hp3 w, #[], {}, 584, os⟩ (piecesOf bodD envA codA posC [topFrame default]) = some (.next, ⟨hp4 w, #[], {}, 654, os⟩, codA, posD) := by kernel_rfl
theorem cutFin (w : World) (os : OsState) : topRun treeTable PySem.Challenge.rw_to0014_01.row.toRowW.prog w 28 (some (Value.ref 6)) 20 ⟨hp4 w, #[], {}, 654, os⟩ (restOf [] envA codA posD [topFrame default]) = some ⟨hp4 w, #[], {}, 654, os⟩ := by kernel_rfl
theorem look_0 (w : World) (os : OsState) : (staticsOk (importedModules PySem.Challenge.rw_to0014_01.row.toRowW.prog.main.body) (hp0 w) (hp4 w) && namesBound PySem.Challenge.rw_to0014_01.row.toRowW.prog (hp4 w) && gensDone (st4 w os) && laidKept (hp0 w) (hp4 w)) = true := by kernel_rfl
def cA {α β : Type} (x : α × β) : α := match x with | (a, _) => a
def cB {α β : Type} (x : α × β) : β := match x with | (_, b) => b
theorem cA_eq {α β : Type} (x : α × β) : x.1 = cA x := rfl
theorem cB_eq {α β : Type} (x : α × β) : x.2 = cB x := rfl
theorem c_ext {α β : Type} {x y : α × β} (a : cA x = y.1) (b : cB x = y.2) : x = y := Prod.ext a b
theorem look_three {q : Program} {loose mods : List Str} {Xt : Shared → Bool} {g0 : Bool} {s : Shared} (a : s.heap.keysOk (looseW q loose) ((recsOf q).map (·.name)) ((litsOf q).map (·.1)) ((clssOf q (looseW q loose)).map (·.name)) = true)
    (b : s.heap.accountedOkI mods = true) (c : s.heap.isNs mainGlobals = true) (d : s.heap.isNs builtinsNs = true) (e : tablesOk q s.heap = true) (f : Xt s = true) (g : (if g0 then s.gens.size == 0 else !leftWithCleanup s.gens) = true) :
    cA (cB (cB (openSeen q loose mods Xt g0 s))) = (openGood q loose).2.2.1 :=
  look_both (look_both (look_both (look_both (look_both (look_both a b) c) d) e) f) g
theorem look_3a (w : World) (os : OsState) : (st4 w os).heap.keysOk (looseW Mine.vw [PySem.Str.ofString "_twin_re_1", PySem.Str.ofString "_twin_re_2", PySem.Str.ofString "EXACT_TOKEN_TYPES"]) ((recsOf Mine.vw).map (·.name)) ((litsOf Mine.vw).map (·.1)) ((clssOf Mine.vw (looseW Mine.vw [PySem.Str.ofString "_twin_re_1", PySem.Str.ofString "_twin_re_2", PySem.Str.ofString "EXACT_TOKEN_TYPES"])).map (·.name)) = true := by kernel_rfl
theorem look_3b (w : World) (os : OsState) : (st4 w os).heap.accountedOkI (importedModules PySem.Challenge.rw_to0014_01.row.toRowW.prog.main.body) = true := by kernel_rfl
theorem look_3c (w : World) (os : OsState) : (st4 w os).heap.isNs mainGlobals = true := by kernel_rfl
theorem look_3d (w : World) (os : OsState) : (st4 w os).heap.isNs builtinsNs = true := by kernel_rfl
theorem look_3e (w : World) (os : OsState) : tablesOk Mine.vw (st4 w os).heap = true := by kernel_rfl
theorem look_3f (w : World) (os : OsState) : xlAt Mine.vw [] (st4 w os) = true := by kernel_rfl
theorem look_3g (w : World) (os : OsState) : recOk (RowW.records PySem.Challenge.rw_to0014_01.row.toRowW) (st4 w os) = true := by kernel_rfl
theorem look_3 (w : World) (os : OsState) : (cA (cB (cB (openSeen Mine.vw [PySem.Str.ofString "_twin_re_1", PySem.Str.ofString "_twin_re_2", PySem.Str.ofString "EXACT_TOKEN_TYPES"] (importedModules PySem.Challenge.rw_to0014_01.row.toRowW.prog.main.body) (fun s => xlAt Mine.vw [] s && recOk (RowW.records PySem.Challenge.rw_to0014_01.row.toRowW) s) true (st4 w os))))) = (openGood Mine.vw [PySem.Str.ofString "_twin_re_1", PySem.Str.ofString "_twin_re_2", PySem.Str.ofString "EXACT_TOKEN_TYPES"]).2.2.1 := look_three (look_3a w os) (look_3b w os) (look_3c w os) (look_3d w os) (look_3e w os) (look_both (look_3f w os) (look_3g w os)) rfl
theorem look_1 (w : World) (os : OsState) : (cA (openSeen Mine.vw [PySem.Str.ofString "_twin_re_1", PySem.Str.ofString "_twin_re_2", PySem.Str.ofString "EXACT_TOKEN_TYPES"] (importedModules PySem.Challenge.rw_to0014_01.row.toRowW.prog.main.body) (fun s => xlAt Mine.vw [] s && recOk (RowW.records PySem.Challenge.rw_to0014_01.row.toRowW) s) true (st4 w os))) = (openGood Mine.vw [PySem.Str.ofString "_twin_re_1", PySem.Str.ofString "_twin_re_2", PySem.Str.ofString "EXACT_TOKEN_TYPES"]).1 := by kernel_rfl
theorem look_2 (w : World) (os : OsState) : (cA (cB (openSeen Mine.vw [PySem.Str.ofString "_twin_re_1", PySem.Str.ofString "_twin_re_2", PySem.Str.ofString "EXACT_TOKEN_TYPES"] (importedModules PySem.Challenge.rw_to0014_01.row.toRowW.prog.main.body) (fun s => xlAt Mine.vw [] s && recOk (RowW.records PySem.Challenge.rw_to0014_01.row.toRowW) s) true (st4 w os)))) = (openGood Mine.vw [PySem.Str.ofString "_twin_re_1", PySem.Str.ofString "_twin_re_2", PySem.Str.ofString "EXACT_TOKEN_TYPES"]).2.1 := by kernel_rfl
theorem look_4 (w : World) (os : OsState) : (cA (cB (cB (cB (openSeen Mine.vw [PySem.Str.ofString "_twin_re_1", PySem.Str.ofString "_twin_re_2", PySem.Str.ofString "EXACT_TOKEN_TYPES"] (importedModules PySem.Challenge.rw_to0014_01.row.toRowW.prog.main.body) (fun s => xlAt Mine.vw [] s && recOk (RowW.records PySem.Challenge.rw_to0014_01.row.toRowW) s) true (st4 w os)))))) = (openGood Mine.vw [PySem.Str.ofString "_twin_re_1", PySem.Str.ofString "_twin_re_2", PySem.Str.ofString "EXACT_TOKEN_TYPES"]).2.2.2.1 := by kernel_rfl
theorem look_5 (w : World) (os : OsState) : (cA (cB (cB (cB (cB (openSeen Mine.vw [PySem.Str.ofString "_twin_re_1", PySem.Str.ofString "_twin_re_2", PySem.Str.ofString "EXACT_TOKEN_TYPES"] (importedModules PySem.Challenge.rw_to0014_01.row.toRowW.prog.main.body) (fun s => xlAt Mine.vw [] s && recOk (RowW.records PySem.Challenge.rw_to0014_01.row.toRowW) s) true (st4 w os))))))) = (openGood Mine.vw [PySem.Str.ofString "_twin_re_1", PySem.Str.ofString "_twin_re_2", PySem.Str.ofString "EXACT_TOKEN_TYPES"]).2.2.2.2.1 := by kernel_rfl
theorem look_6 (w : World) (os : OsState) : (cA (cB (cB (cB (cB (cB (openSeen Mine.vw [PySem.Str.ofString "_twin_re_1", PySem.Str.ofString "_twin_re_2", PySem.Str.ofString "EXACT_TOKEN_TYPES"] (importedModules PySem.Challenge.rw_to0014_01.row.toRowW.prog.main.body) (fun s => xlAt Mine.vw [] s && recOk (RowW.records PySem.Challenge.rw_to0014_01.row.toRowW) s) true (st4 w os)))))))) = (openGood Mine.vw [PySem.Str.ofString "_twin_re_1", PySem.Str.ofString "_twin_re_2", PySem.Str.ofString "EXACT_TOKEN_TYPES"]).2.2.2.2.2.1 := by kernel_rfl
theorem look_7 (w : World) (os : OsState) : (cA (cB (cB (cB (cB (cB (cB (openSeen Mine.vw [PySem.Str.ofString "_twin_re_1", PySem.Str.ofString "_twin_re_2", PySem.Str.ofString "EXACT_TOKEN_TYPES"] (importedModules PySem.Challenge.rw_to0014_01.row.toRowW.prog.main.body) (fun s => xlAt Mine.vw [] s && recOk (RowW.records PySem.Challenge.rw_to0014_01.row.toRowW) s) true (st4 w os))))))))) = (openGood Mine.vw [PySem.Str.ofString "_twin_re_1", PySem.Str.ofString "_twin_re_2", PySem.Str.ofString "EXACT_TOKEN_TYPES"]).2.2.2.2.2.2.1 := by kernel_rfl
theorem look_8 (w : World) (os : OsState) : (cA (cB (cB (cB (cB (cB (cB (cB (openSeen Mine.vw [PySem.Str.ofString "_twin_re_1", PySem.Str.ofString "_twin_re_2", PySem.Str.ofString "EXACT_TOKEN_TYPES"] (importedModules PySem.Challenge.rw_to0014_01.row.toRowW.prog.main.body) (fun s => xlAt Mine.vw [] s && recOk (RowW.records PySem.Challenge.rw_to0014_01.row.toRowW) s) true (st4 w os)))))))))) = (openGood Mine.vw [PySem.Str.ofString "_twin_re_1", PySem.Str.ofString "_twin_re_2", PySem.Str.ofString "EXACT_TOKEN_TYPES"]).2.2.2.2.2.2.2.1 := by kernel_rfl
theorem look_9 (w : World) (os : OsState) : (cB (cB (cB (cB (cB (cB (cB (cB (openSeen Mine.vw [PySem.Str.ofString "_twin_re_1", PySem.Str.ofString "_twin_re_2", PySem.Str.ofString "EXACT_TOKEN_TYPES"] (importedModules PySem.Challenge.rw_to0014_01.row.toRowW.prog.main.body) (fun s => xlAt Mine.vw [] s && recOk (RowW.records PySem.Challenge.rw_to0014_01.row.toRowW) s) true (st4 w os)))))))))) = (openGood Mine.vw [PySem.Str.ofString "_twin_re_1", PySem.Str.ofString "_twin_re_2", PySem.Str.ofString "EXACT_TOKEN_TYPES"]).2.2.2.2.2.2.2.2 := by kernel_rfl
theorem looks (w : World) (os : OsState) : (openSeen Mine.vw [PySem.Str.ofString "_twin_re_1", PySem.Str.ofString "_twin_re_2", PySem.Str.ofString "EXACT_TOKEN_TYPES"] (importedModules PySem.Challenge.rw_to0014_01.row.toRowW.prog.main.body) (fun s => xlAt Mine.vw [] s && recOk (RowW.records PySem.Challenge.rw_to0014_01.row.toRowW) s) true (st4 w os)) = (openGood Mine.vw [PySem.Str.ofString "_twin_re_1", PySem.Str.ofString "_twin_re_2", PySem.Str.ofString "EXACT_TOKEN_TYPES"]) := c_ext (look_1 w os) (c_ext (look_2 w os) (c_ext (look_3 w os) (c_ext (look_4 w os) (c_ext (look_5 w os) (c_ext (look_6 w os) (c_ext (look_7 w os) (c_ext (look_8 w os) (look_9 w os))))))))
local macro_rules | `(tactic| o_law) => `(tactic| refine holds_law Mine.said fun said => ?_)
local macro_rules | `(tactic| o_head (kHook $K $as $p)) => `(tactic| (
  refine holds_openX (q := Mine.vw) (loose := [PySem.Str.ofString "_twin_re_1", PySem.Str.ofString "_twin_re_2", PySem.Str.ofString "EXACT_TOKEN_TYPES"]) (Xt := fun s => xlAt Mine.vw [] s && recOk (RowW.records PySem.Challenge.rw_to0014_01.row.toRowW) s) (XP := XL Mine.vw []) (Yf := obsZ $as) (Ya := valZ $K 131 654) (N := 4152) ?hl (fun s e => xl_of s (Bool.and_eq_true_iff.mp e).1) XL.keeps (by rfl) (by rfl) (by rfl) (fun s e => recFacts_of (Bool.and_eq_true_iff.mp e).2) (by rfl) (by first | assumption | decide +kernel) (by decide +kernel) ⟨rfl, rfl, rfl, rfl, rfl, by decide +kernel⟩ ?hw ?hc
  case hl => exact Mine.of_cut Mine.cutOpen Mine.cutSize Mine.cutPre Mine.cutBlock Mine.cutA Mine.cutB Mine.cutD Mine.cutFin rfl Mine.look_0 Mine.looks (fun w os => by kernel_rfl)))
set_option maxRecDepth 100000 in
set_option maxHeartbeats 0 in
open_top hd for PySem.Challenge.rw_to0014_01
end Mine
end
section
open PySem PySem.W PyProof.Rows PySem.Calls PySem.Spec
namespace Mine
abbrev Ar (dp un : Nat) (gd : Option (List Code)) (outer : List Env) : Around := { handled := none, depth := dp, frames := some outer, guards := gd, units := un }
/-- a body's end: the frame's base still stands, and what is wanted of the value -/
def Lv (h₀ : Heap) (L : Addr) (Q : Value → Shared → Prop) (v : Value) (s' : Shared) : Prop := ∃ m', Fr h₀ L s'.heap m' ∧ Q v s'
theorem Lv.mk {h₀ h' : Heap} {L : Addr} {m' : Str → Option Value} {Q : Value → Shared → Prop} {v : Value} {s : Shared} {tk : Nat} (F : Fr h₀ L h' m')
    (h : (∀ b o, h₀.get? b = some o → h'.get? b = some o) → Q v { s with heap := h', toks := tk }) : Lv h₀ L Q v { s with heap := h', toks := tk } := ⟨m', F, h F.keep⟩
section
variable {prog : Program} {w : World} {dp un : Nat} {gd : Option (List Code)} {outer : List Env} {s : Shared} {K : Frag} {p : Program} {loose : List Str} {mean : ExcName → Option Value} {mg mb : Str → Option Value} {Q E : Value → Shared → Prop}
  {name qual : Str} {params : Arguments} {body : List Stmt} {scope : Scope} {dV kV doc pm cdv ct oc : Value} {an od : Option Addr} {osl : Array (Option Value)} {f : Addr} {args : Args} {binds : List (Str × Value)}
theorem enter_plain (X : K.In s.heap) (T : Top p loose mean mg mb s.heap)
    (ho : K.lookup f = some ⟨oc, od, .func (fnOf name qual params body scope dV kV doc pm an cdv ct), osl⟩) (hcd : codeIn K cdv qual = true) (hroom : dp < recursionLimit)
    (hbind : BindsTo s (fnOf name qual params body scope dV kV doc pm an cdv ct) args binds) (hloc : ∀ y ∈ binds, scope.names.lookup y.1 = some .local)
    (h : ∀ L h₁, L = s.heap.objs.size → Fr s.heap L h₁ (fun y => binds.reverse.lookup y) → News s.heap L h₁ [] →
      wpAny (model prog w) ((Ar dp un gd outer).deeper (envOf qual scope L f cdv)) (execs body (envOf qual scope L f cdv)) (fun fl s' => Lv s.heap L Q (match fl with | .ret v => v | _ => .none) s')
        (fun e s' => wpAny (model prog w) ((Ar dp un gd outer).deeper (envOf qual scope L f cdv)) (leaving (envOf qual scope L f cdv) e) (fun _ s'' => E e s'') (fun e' s'' => E e' s'') s')
        { s with heap := h₁, toks := s.toks + binds.length })
    (hco : scope.isCoroutine = false) (hgen : scope.isGenerator = false) (hk : scope.kind = .function) (hcell : ∀ x ∈ scope.names, x.2 ≠ .cell) :
    codeAny (model prog w) (Ar dp un gd outer) (.call (.ref f) args) (fun r s' => match r with | .ok (.ret v) => Q v s' | .ok _ => False | .error e => E e s') s := by
  refine codeAny_call_def (fd := fnOf name qual params body scope dV kV doc pm an cdv ct) (body := body) (binds := binds) hroom (X _ _ ho) rfl T.nolimit (codeRec_of X hcd) rfl hbind hcell hloc (fun h₁ hns hk₁ => ?_) hco hgen hk
  exact wpAny_mono (h s.heap.objs.size h₁ rfl ⟨hns, hk₁, Nat.le_refl _⟩ News.nil) (fun fl s' hl => let ⟨_, _, q⟩ := hl; q) fun _ _ y => y
theorem enter_cells (X : K.In s.heap) (T : Top p loose mean mg mb s.heap)
    (ho : K.lookup f = some ⟨oc, od, .func (fnOf name qual params body scope dV kV doc pm an cdv ct), osl⟩) (hcd : codeIn K cdv qual = true) (hroom : dp < recursionLimit)
    (hbind : BindsTo s (fnOf name qual params body scope dV kV doc pm an cdv ct) args binds) (hkind : (binds.all fun y => scope.names.lookup y.1 == some .local || scope.names.lookup y.1 == some .cell) = true)
    (hnd : ((cellsFrom 0 scope.names []).map (·.1)).Nodup)
    (h : ∀ L h₁ tk cells, L = s.heap.objs.size → Fr s.heap L h₁ (bindL (envOfC qual scope L f cdv).kindOf binds fun _ => none) → News s.heap L h₁ cells →
      CellsAre (bindC (envOfC qual scope L f cdv).kindOf binds fun _ => none) (cellsFrom (L + 1) scope.names []) cells →
      wpAny (model prog w) ((Ar dp un gd outer).deeper (envOfC qual scope L f cdv)) (execs body (envOfC qual scope L f cdv)) (fun fl s' => Lv s.heap L Q (match fl with | .ret v => v | _ => .none) s')
        (fun e s' => wpAny (model prog w) ((Ar dp un gd outer).deeper (envOfC qual scope L f cdv)) (leaving (envOfC qual scope L f cdv) e) (fun _ s'' => E e s'') (fun e' s'' => E e' s'') s')
        { s with heap := h₁, toks := tk })
    (hco : scope.isCoroutine = false) (hgen : scope.isGenerator = false) (hk : scope.kind = .function) :
    codeAny (model prog w) (Ar dp un gd outer) (.call (.ref f) args) (fun r s' => match r with | .ok (.ret v) => Q v s' | .ok _ => False | .error e => E e s') s := by
  refine codeAny_call_function (fd := fnOf name qual params body scope dV kV doc pm an cdv ct) (body := body) hroom (X _ _ ho) rfl hco hgen rfl (codeRec_of X hcd) (hbind _ _ _ _ ?_)
  refine wpAny_newFunctionEnv_cells hk (kindsX hkind _) fun env' he s' x => ?_
  subst he
  refine ⟨T.nolimit.keeps x.toInCall.keep, codeAny_func ?_⟩
  obtain ⟨h₁, tk, rfl, _⟩ := x.done
  have hk₁ := x.toInCall.keep
  obtain ⟨cells, NC, Y⟩ := Cl.news (h₀ := s.heap) (Nat.le_refl _) fun n c hm => ⟨x.cell n c (lookup_of_mem_nodup (cellsFrom_names scope.names 0 (s.heap.objs.size + 1) [] [] rfl ▸ hnd) hm), x.above n c hm⟩
  exact wpAny_mono (h s.heap.objs.size h₁ tk cells rfl ⟨x.toInCall.ns, hk₁, Nat.le_refl _⟩ NC Y) (fun fl s' hl => let ⟨_, _, q⟩ := hl; q) fun _ _ y => y
end
section
variable {prog : Program} {w : World} {A : Around} {E : Value → Shared → Prop} {s : Shared} {h₀ : Heap} {L : Addr} {m : Str → Option Value} {news : List (Addr × Obj)}
theorem mul_rep {l : Addr} {v : Value} {x : Int} {u : Tok} {Q : Value → Shared → Prop} (Fm : Fr h₀ L s.heap m) (N : News h₀ L s.heap news) (hl : s.heap.IsList l [v].toArray) (hlo : 0 ≤ x) (hhi : x ≤ 256)
    (h : ∀ D h', Fr h₀ L h' m → News h₀ L h' ((D, listOf (List.replicate x.toNat v).toArray 0) :: news) → (∀ p ∈ news, p.1 < D) → Q (.ref D) { s with heap := h' }) : wpAny (model prog w) A (binaryOp .Mult (.ref l) (.int x u)) Q E s :=
  KMa.mul Fm N hl (by omega) (by omega) (by simp only [List.length_cons, List.length_nil]; omega) (lm_rep_flat_one v _) h
theorem add_two {l b : Addr} {vs ws : List Value} {Q : Value → Shared → Prop} (F : Fr h₀ L s.heap m) (N : News h₀ L s.heap news) (hl : s.heap.IsList l vs.toArray) (hb : s.heap.IsList b ws.toArray) (hsz : vs.length + ws.length ≤ 2 ^ 20)
    (h : ∀ D h', Fr h₀ L h' m → News h₀ L h' ((D, listOf (vs ++ ws).toArray 0) :: news) → (∀ p ∈ news, p.1 < D) → Q (.ref D) { s with heap := h' }) : wpAny (model prog w) A (binaryOp .Add (.ref l) (.ref b)) Q E s :=
  add_arrays F N hl hb (fun h' F' N' => h _ h' F' (by simpa using N') (fun p hp => Heap.lt_size (N p hp).1)) (by simp [sizeLine]; omega)
end
theorem allLt_mem {d : Addr} : ∀ {l : List (Addr × Obj)}, AllLt d l → ∀ p ∈ l, p.1 < d
  | [], _, _, hp => nomatch hp
  | _ :: _, h, p, hp => by
    rcases List.mem_cons.mp hp with rfl | hp
    · exact h.1
    · exact allLt_mem h.2 p hp
theorem intsAre_rep {i : Int} {t : Tok} : ∀ n : Nat, IntsAre (List.replicate n (Value.int i t)) (List.replicate n i)
  | 0 => IntsAre.nil
  | n + 1 => by rw [List.replicate_succ, List.replicate_succ]; exact IntsAre.cons _ _ (intsAre_rep n)
end Mine
namespace Mine
def Stp (P : Prop) : Prop := P
theorem Stp.out {P : Prop} (h : Stp P) : P := h
theorem Stp.mk {P : Prop} (h : P) : Stp P := h
/-- what `_law_read` reads of a row's codes -/
def rd : Nat → List Nat → List Int
  | 0, _ => []
  | _ + 1, [] => []
  | n + 1, 46 :: 46 :: 46 :: r => 52 :: rd n r
  | n + 1, 46 :: r => 23 :: rd n r
  | n + 1, 61 :: 61 :: r => 27 :: rd n r
  | n + 1, 61 :: r => 22 :: rd n r
  | _ + 1, _ => []
end Mine
namespace Mine
theorem News.drop1 {h₀ h : Heap} {L : Addr} {p : Addr × Obj} {news : List (Addr × Obj)} (N : News h₀ L h (p :: news)) : News h₀ L h news := fun q hq => N q (.tail _ hq)
end Mine
namespace Mine
theorem wp_post {α : Type} {M : Model} {A : Around} {t : Sem α} {Q' Q : α → Shared → Prop} {E : Value → Shared → Prop} {s : Shared} (h : wpAny M A t Q' E s) (k : ∀ v s', Q' v s' → Q v s') : wpAny M A t Q E s := wpAny_mono h k fun _ _ e => e
end Mine
end
section
open PySem PySem.W PyProof.Rows PySem.Calls PySem.Spec PyProof.Rows.LCg PyProof.Rows.LCt
namespace Mine
section
variable {prog : Program} {w : World} {A : Around} {E : Value → Shared → Prop} {s : Shared} {h₀ : Heap} {L : Addr} {m : Str → Option Value} {env : Env}
def TupAt (ax : Addr) (its : Array Value) (news : List (Addr × Obj)) : Prop := ∃ o, (ax, o) ∈ news ∧ o.cls = .type "tuple" ∧ ∃ n, o.data = .seq its n
theorem TupAt.tup {h : Heap} {ax : Addr} {its : Array Value} {news : List (Addr × Obj)} (x : TupAt ax its news) (N : News h₀ L h news) : h.IsTuple ax its := let ⟨o, hm, r⟩ := x; ⟨o, (N _ hm).1, r⟩
theorem tuple_st {ax I : Addr} {its : Array Value} : ∀ i (h h' : Heap) (o : Obj) (nw : List (Addr × Obj)), (h.IsTupleIter I ax i ∧ h.IsTuple ax its) → h.get? I = some o → h'.get? I = some o → (∀ b o, h₀.get? b = some o → h'.get? b = some o) → News h₀ L h' nw → TupAt ax its nw → (h'.IsTupleIter I ax i ∧ h'.IsTuple ax its) :=
  fun i h h' o nw st e e' _ N S => ⟨by obtain ⟨o', q, r⟩ := st.1; rw [e] at q; cases q; exact ⟨o, e', r⟩, S.tup N⟩
/-- a comprehension with one test over a tuple that the call made -/
theorem ListComp_tup {ct elt iter : Expr} {x : Str} {px : Pos} {scope : Scope} {cl : List (Str × Addr)} {pos : Pos} {Q : Value → Shared → Prop} (_F₀ : Fr h₀ L s.heap m)
    (hclos : closureFor scope env = pure cl) (hcell : ∀ y ∈ scope.names, y.2 ≠ .cell) (hkind : scope.kind = .function)
    (hnames : ∀ y ∈ scope.names, y.2 = .local → scope.names.lookup y.1 = some .local) (hx : scope.names.lookup x = some .local)
    (h : wpAny (model prog w) A (eval iter env) (fun xv s₁ => Stp (∃ ax its news, xv = .ref ax ∧ A.handled = none ∧ Fr h₀ L s₁.heap m ∧ News h₀ L s₁.heap news ∧ TupAt ax its news ∧ its.size ≤ sizeLine ∧
      ∀ g, CompRestT prog w A h₀ L m env ct elt x scope cl { s₁ with heap := g } (TupAt ax its) (fun i v => its[i]? = some v) (FinE h₀ L m { s₁ with heap := g } Q) its.size 0 [] news)) E s)
    (hs : ∀ x, foldedSetIterable iter env x = pure x := by intro _; rfl) :
    wpAny (model prog w) A (eval (.ListComp elt [⟨.Name x px, iter, [ct], 0⟩] scope pos) env) Q E s := by
  rw [eval_ListComp]
  refine wpAny_comprehension_free (use := none) rfl hs hclos hkind hnames (wpAny_mono h (fun xv s₁ h₁ => ?_) fun _ _ e => e)
  obtain ⟨ax, its, news, rfl, hh, F, N, S, hsz, R⟩ := Stp.out h₁
  have hl := S.tup N
  have hlt : ax < s₁.heap.objs.size := by obtain ⟨_, e, _⟩ := hl; exact Heap.lt_size e
  refine wpAny_pyIter_tuple hl ?_
  have up : ∀ b o, s₁.heap.get? b = some o → (s₁.heap.push { cls := .type "tuple_iterator", data := .fields #[.ref ax, .int 0 0] }).get? b = some o := fun b o e => Heap.get?_push_of_some _ e
  refine block_T (Walks.tuple hh s₁.heap.objs.size ax (Nat.ne_of_lt hlt) its) hsz (fun i h st => by obtain ⟨o, e, _⟩ := st.1; exact ⟨o, e⟩) tuple_st hcell hkind hx ⟨⟨_, Heap.get?_push_size _ rfl, rfl, rfl⟩, hl.at fun o e => up _ o e⟩ (fun b hb => ?_)
    (F.keeps up) (N.grown up) (Nat.ne_of_lt F.ns.lt) (next_is_new F) (fun p hp => Nat.ne_of_lt (Heap.lt_size (N p hp).1)) S (R _) ?_
  · show b < (s₁.heap.push _).objs.size
    rw [Heap.size_push]
    rcases List.mem_cons.mp hb with rfl | hb
    · exact Nat.lt_succ_self _
    · rw [List.mem_singleton.mp hb]; exact Nat.lt_succ_of_lt hlt
  · intro D C h tk m' ys news' F' N' o1 hn hC₀ hD₀ hCL hDL hCD offC fin
    refine ⟨m', hn, fun h'' hs'' => fin D h'' tk (F'.change hs'' hCL hC₀) (fun p hp => ?_) o1⟩
    refine ⟨hs''.extBut _ _ ?_ (N' p hp).1, (N' p hp).2⟩
    rcases List.mem_cons.mp hp with rfl | hp
    · exact Ne.symm hCD
    · exact offC p hp
end
end Mine
namespace Mine
section
variable {prog : Program} {w : World} {A : Around} {s : Shared} {h₀ : Heap} {L : Addr} {m : Str → Option Value} {env : Env}
theorem intsAre_snoc {vs : List Value} {zs : List Int} (h : IntsAre vs zs) (k : Int) (t : Tok) : IntsAre (vs ++ [.int k t]) (zs ++ [k]) := IntsAre.append h (IntsAre.cons _ _ IntsAre.nil)
/-- one state of a comprehension's block: the frame, and the ledger with the block's three objects -/
def Blk (h₀ : Heap) (L : Addr) (m : Str → Option Value) (news : List (Addr × Obj)) (s : Shared) (I : Addr) (oI : Obj) (C : Addr) (oC : Obj) (D : Addr) (oD : Obj) (s' : Shared) : Prop :=
  ∃ h' tk', s' = { s with heap := h', toks := tk' } ∧ Fr h₀ L h' m ∧ News h₀ L h' ((I, oI) :: (C, oC) :: (D, oD) :: news)
theorem Blk.mk {news : List (Addr × Obj)} {I : Addr} {oI : Obj} {C : Addr} {oC : Obj} {D : Addr} {oD : Obj} {h' : Heap} {tk' : Nat} (F : Fr h₀ L h' m) (N : News h₀ L h' ((I, oI) :: (C, oC) :: (D, oD) :: news)) : Blk h₀ L m news s I oI C oC D oD { s with heap := h', toks := tk' } := ⟨h', tk', rfl, F, N⟩
theorem rest_filter {ct elt : Expr} {x : Str} {scope : Scope} {cl : List (Str × Addr)} {S : List (Addr × Obj) → Prop} {Fin : List Value → List (Addr × Obj) → Prop} {news : List (Addr × Obj)} {vs : List Value} {zs : List Int} (hz : IntsAre vs zs) (pp : Int → Bool) (f : Int → Int) (hS : S news)
    (test : ∀ (i : Nat) (k : Int) (t : Tok) I oI C oC D m₂ h tk (E' : Value → Shared → Prop) ys, zs[i]? = some k → NsObj oC m₂ → m₂ x = some (.int k t) → Fr h₀ L h m → News h₀ L h ((I, oI) :: (C, oC) :: (D, lst ys) :: news) → Off3 I C D news → ((@Ne Nat I C) ∧ (@Ne Nat I D) ∧ (@Ne Nat C D)) →
      wpAny (model prog w) A (isTrue ct (compEnvC scope cl C env) (eval ct (compEnvC scope cl C env))) (fun ok s' => Stp (ok = pp k ∧ Blk h₀ L m news s I oI C oC D (lst ys) s')) E' { s with heap := h, toks := tk })
    (el : ∀ (i : Nat) (k : Int) (t : Tok) I oI C oC D m₂ h tk (E' : Value → Shared → Prop) ys, zs[i]? = some k → pp k = true → NsObj oC m₂ → m₂ x = some (.int k t) → Fr h₀ L h m → News h₀ L h ((I, oI) :: (C, oC) :: (D, lst ys) :: news) → Off3 I C D news → ((@Ne Nat I C) ∧ (@Ne Nat I D) ∧ (@Ne Nat C D)) →
      wpAny (model prog w) A (eval elt (compEnvC scope cl C env)) (fun y s' => Stp ((∃ t', y = .int (f k) t') ∧ Blk h₀ L m news s I oI C oC D (lst ys) s')) E' { s with heap := h, toks := tk })
    (fin : ∀ ys, IntsAre ys ((zs.filter pp).map f) → Fin ys news) :
    CompRestT prog w A h₀ L m env ct elt x scope cl s S (fun i v => vs.toArray[i]? = some v) Fin vs.length 0 [] news := by
  have hlen : vs.length = zs.length := hz.length
  have all : ∀ k i ys, i + k = vs.length → IntsAre ys (((zs.take i).filter pp).map f) → CompRestT prog w A h₀ L m env ct elt x scope cl s S (fun i v => vs.toArray[i]? = some v) Fin k i ys news := by
    intro k
    induction k with
    | zero =>
      intro i ys hi hy
      have : zs.take i = zs := List.take_of_length_le (by omega)
      rw [this] at hy
      exact CompRestT.zero (fin ys hy)
    | succ k ih =>
      intro i ys hi hy
      refine CompRestT.succ fun v I oI C oC D m₂ h tk E' hP hNs hm F N off ne3 => ?_
      have hlt : i < zs.length := by omega
      obtain ⟨t, ht⟩ := hz.get i zs[i] (by simp [hlt])
      have hv : v = .int zs[i] t := by
        have : vs[i]? = some v := by simpa using hP
        rw [ht] at this; exact (Option.some.inj this).symm
      subst hv
      have hzi : zs[i]? = some zs[i] := by simp [hlt]
      have htake : zs.take (i + 1) = zs.take i ++ [zs[i]] := by rw [List.take_add_one, hzi]; rfl
      refine wp_post (test i zs[i] t I oI C oC D m₂ h tk E' ys hzi hNs hm F N off ne3) fun ok s' h' => ?_
      obtain ⟨rfl, h1, tk1, rfl, F1, N1⟩ := Stp.out h'
      cases hpp : pp zs[i] with
      | true =>
        rw [if_pos rfl]
        refine wp_post (el i zs[i] t I oI C oC D m₂ h1 tk1 E' ys hzi hpp hNs hm F1 N1 off ne3) fun y s2 hh2 => ?_
        obtain ⟨⟨t', rfl⟩, h2, tk2, rfl, F2, N2⟩ := Stp.out hh2
        refine ⟨h2, tk2, news, rfl, F2, N2, off, hS, ih (i + 1) _ (by omega) ?_⟩
        rw [htake, List.filter_append, List.map_append]
        have : ([zs[i]].filter pp).map f = [f zs[i]] := by simp [hpp]
        rw [this]
        exact intsAre_snoc hy _ _
      | false =>
        rw [if_neg (by decide)]
        refine ⟨h1, tk1, news, rfl, F1, N1, off, hS, ih (i + 1) _ (by omega) ?_⟩
        rw [htake, List.filter_append, List.map_append]
        have : ([zs[i]].filter pp).map f = [] := by simp [hpp]
        rw [this, List.append_nil]
        exact hy
  exact all vs.length 0 [] (by omega) (by simpa using IntsAre.nil)
end
end Mine
end
section
open PySem PySem.Spec PySem.Builtin.Str
namespace Mine
theorem pick_take {α : Type} (l : List α) (p : Nat) : ∀ c, p + c ≤ l.length → (List.range c).filterMap (fun i => l[p + i]?) = (l.drop p).take c := by
  intro c
  induction c with
  | zero => intro _; simp
  | succ c ih =>
    intro h
    rw [List.range_succ, List.filterMap_append, ih (by omega), List.take_add_one]
    congr 1
    rw [List.getElem?_drop]
    have : p + c < l.length := by omega
    simp [this]
theorem slice_mid (x : Str) (p k : Nat) (hp : p ≤ x.length) : Txt.slice x (some (p : Int)) (some ((p : Int) + (k : Int))) = ⟨((x.cps.toList.drop p).take k).toArray⟩ := by
  have hn : x.cps.toList.length = x.length := by simp [Str.length]
  have e : strSliceIndices (some (p : Int)) (some ((p : Int) + (k : Int))) 1 x.length = (List.range (min (p + k) x.length - p)).map (p + ·) := by
    unfold strSliceIndices
    have e1 : max 0 (min (p : Int) x.length) = (p : Int) := by omega
    have e2 : max 0 (min ((p : Int) + k) x.length) = ((min (p + k) x.length : Nat) : Int) := by omega
    have hp0 : ¬ ((p : Int) < 0) := by omega
    have hq0 : ¬ ((p : Int) + k < 0) := by omega
    simp only [show (1 : Int) > 0 by decide, if_true, if_neg hp0, if_neg hq0, e1, e2]
    exact sliceRange_one p _
  have hf : ((List.range (min (p + k) x.length - p)).map (p + ·)).filterMap (x.cps[·]?) = (x.cps.toList.drop p).take k := by
    rw [List.filterMap_map]
    have : ((fun i => x.cps[i]?) ∘ fun i => p + i) = fun i => x.cps.toList[p + i]? := by funext i; simp
    rw [this, pick_take _ _ _ (by omega), List.take_eq_take_iff]
    simp only [List.length_drop]; omega
  unfold Txt.slice
  rw [e, hf]
  split
  · rename_i h
    simp only [Bool.and_eq_true, beq_iff_eq, List.length_map, List.length_range, beq_self_eq_true, true_and] at h
    have h0 : p = 0 ∧ x.length ≤ k ∨ x.length = 0 := by omega
    apply Str.ext'
    rcases h0 with ⟨rfl, hk⟩ | h0
    · simp only [List.drop_zero]
      rw [List.take_of_length_le (by omega)]
    · have : x.cps.toList = [] := List.eq_nil_of_length_eq_zero (by omega)
      rw [this]
      simp only [List.drop_nil, List.take_nil]
      apply Array.ext'
      simpa using this
  · rfl
def keysT : List (List Nat × Int) := [([33], 54), ([33, 61], 28), ([37], 24), ([37, 61], 40), ([38], 19), ([38, 61], 41), ([40], 7), ([41], 8), ([42], 16), ([42, 42], 35), ([42, 42, 61], 46), ([42, 61], 38), ([43], 14), ([43, 61], 36), ([44], 12), ([45], 15), ([45, 61], 37), ([45, 62], 51), ([46], 23), ([46, 46, 46], 52), ([47], 17), ([47, 47], 47), ([47, 47, 61], 48), ([47, 61], 39), ([58], 11), ([58, 61], 53), ([59], 13), ([60], 20), ([60, 60], 33), ([60, 60, 61], 44), ([60, 61], 29), ([61], 22), ([61, 61], 27), ([62], 21), ([62, 61], 30), ([62, 62], 34), ([62, 62, 61], 45), ([64], 49), ([64, 61], 50), ([91], 9), ([93], 10), ([94], 32), ([94, 61], 43), ([123], 25), ([124], 18), ([124, 61], 42), ([125], 26), ([126], 31)]
def TAB : List (PyData × PyData) := keysT.map fun kv => (.str ⟨kv.1.toArray⟩, .int kv.2)
def inTabL (S : Str) : List (List Nat × Int) → Bool
  | [] => false
  | kv :: r => decide (S = ⟨kv.1.toArray⟩) || inTabL S r
def inTab (S : Str) : Bool := inTabL S keysT
/-- what a row of i dots and j equals signs reads as -/
def rdij (i j : Nat) : List Int := List.replicate (i / 3) 52 ++ List.replicate (i % 3) 23 ++ List.replicate (j / 2) 27 ++ List.replicate (j % 2) 22
theorem t_d2 : inTab ⟨#[46, 46]⟩ = false := by decide +kernel
theorem t_d3 : inTab ⟨#[46, 46, 46]⟩ = true := by decide +kernel
theorem t_d1 : inTab ⟨#[46]⟩ = true := by decide +kernel
theorem t_de : inTab ⟨#[46, 61]⟩ = false := by decide +kernel
theorem t_dee : inTab ⟨#[46, 61, 61]⟩ = false := by decide +kernel
theorem t_dde : inTab ⟨#[46, 46, 61]⟩ = false := by decide +kernel
theorem t_e1 : inTab ⟨#[61]⟩ = true := by decide +kernel
theorem t_e2 : inTab ⟨#[61, 61]⟩ = true := by decide +kernel
theorem t_e3 : inTab ⟨#[61, 61, 61]⟩ = false := by decide +kernel
theorem l_d3 : Spec.lookup (.str ⟨#[46, 46, 46]⟩) TAB = some (.int 52) := by kernel_rfl
theorem l_d1 : Spec.lookup (.str ⟨#[46]⟩) TAB = some (.int 23) := by kernel_rfl
theorem l_e2 : Spec.lookup (.str ⟨#[61, 61]⟩) TAB = some (.int 27) := by kernel_rfl
theorem l_e1 : Spec.lookup (.str ⟨#[61]⟩) TAB = some (.int 22) := by kernel_rfl
theorem turn_pure (x : Str) (p i j : Nat) (hp : p < x.length) (hij : x.cps.toList.drop p = List.replicate i 46 ++ List.replicate j 61) (wns : List Int)
    (hw : wns = [(2 : Int), 3].filter fun k => inTab (Txt.slice x (some (p : Int)) (some ((p : Int) + k)))) (M : Int) (hM1 : M ∈ [1] ++ wns) (hM2 : ∀ a ∈ [1] ++ wns, a ≤ M) :
    ∃ (i' j' : Nat) (num : Int) (c : Nat), M = c ∧ 1 ≤ c ∧ c ≤ 3 ∧ Spec.lookup (.str (Txt.slice x (some (p : Int)) (some ((p : Int) + M)))) TAB = some (.int num) ∧
      x.cps.toList.drop (p + c) = List.replicate i' 46 ++ List.replicate j' 61 ∧ num :: rdij i' j' = rdij i j ∧ i' + j' < i + j := by
  have hs : ∀ k : Nat, Txt.slice x (some (p : Int)) (some ((p : Int) + (k : Int))) = ⟨((List.replicate i 46 ++ List.replicate j 61).take k).toArray⟩ := fun k => by
    rw [slice_mid x p k (by omega), hij]
  have h2 := hs 2
  have h3 := hs 3
  have h1 := hs 1
  have hlen : i + j = x.length - p := by
    have := congrArg List.length hij
    simp [Str.length] at this
    simp only [Str.length]; omega
  have hd : ∀ c, x.cps.toList.drop (p + c) = (List.replicate i 46 ++ List.replicate j 61).drop c := fun c => by rw [← hij, List.drop_drop]
  subst hw
  simp only [List.filter_cons, List.filter_nil] at hM1 hM2
  rw [show ((2 : Int) = ((2 : Nat) : Int)) from rfl, show ((3 : Int) = ((3 : Nat) : Int)) from rfl, h2, h3] at hM1 hM2
  have fin : ∀ (i' j' : Nat) (num : Int) (c : Nat), M = c → 1 ≤ c → c ≤ 3 → Spec.lookup (.str ⟨((List.replicate i 46 ++ List.replicate j 61).take c).toArray⟩) TAB = some (.int num) → (List.replicate i 46 ++ List.replicate j 61).drop c = List.replicate i' 46 ++ List.replicate j' 61 →
      num :: rdij i' j' = rdij i j → i' + j' < i + j → ∃ (i' j' : Nat) (num : Int) (c : Nat), M = c ∧ 1 ≤ c ∧ c ≤ 3 ∧ Spec.lookup (.str (Txt.slice x (some (p : Int)) (some ((p : Int) + M)))) TAB = some (.int num) ∧
      x.cps.toList.drop (p + c) = List.replicate i' 46 ++ List.replicate j' 61 ∧ num :: rdij i' j' = rdij i j ∧ i' + j' < i + j := by
    intro i' j' num c hM h1 h3 hl hdr hn hlt
    refine ⟨i', j', num, c, hM, h1, h3, ?_, by rw [hd]; exact hdr, hn, hlt⟩
    rw [hM, hs, hl]
  rcases i with _ | _ | _ | i
  · rcases j with _ | _ | _ | j
    · omega
    · simp [t_e1] at hM1 hM2
      exact fin 0 0 22 3 (by omega) (by omega) (by omega) l_e1 rfl rfl (by omega)
    · simp [List.replicate_succ, t_e2] at hM1 hM2
      exact fin 0 0 27 3 (by omega) (by omega) (by omega) l_e2 rfl rfl (by omega)
    · simp [List.replicate_succ, t_e2, t_e3] at hM1 hM2
      refine fin 0 (j + 1) 27 2 (by omega) (by omega) (by omega) l_e2 (by simp [List.replicate_succ]) ?_ (by omega)
      simp [rdij, List.replicate_succ, show (j + 3) / 2 = (j + 1) / 2 + 1 by omega, show (j + 3) % 2 = (j + 1) % 2 by omega]
  · rcases j with _ | _ | j
    · simp [t_d1] at hM1 hM2
      exact fin 0 0 23 3 (by omega) (by omega) (by omega) l_d1 rfl rfl (by omega)
    · simp [List.replicate_succ, t_de] at hM1 hM2
      exact fin 0 1 23 1 (by omega) (by omega) (by omega) l_d1 rfl rfl (by omega)
    · simp [List.replicate_succ, t_de, t_dee] at hM1 hM2
      refine fin 0 (j + 2) 23 1 (by omega) (by omega) (by omega) l_d1 (by simp [List.replicate_succ]) ?_ (by omega)
      rfl
  · rcases j with _ | j
    · simp [List.replicate_succ, t_d2] at hM1 hM2
      exact fin 1 0 23 1 (by omega) (by omega) (by omega) l_d1 rfl rfl (by omega)
    · simp [List.replicate_succ, t_d2, t_dde] at hM1 hM2
      refine fin 1 (j + 1) 23 1 (by omega) (by omega) (by omega) l_d1 (by simp [List.replicate_succ]) ?_ (by omega)
      simp [rdij, List.replicate_succ]
  · simp [List.replicate_succ, t_d2, t_d3] at hM1 hM2
    refine fin i j 52 3 (by omega) (by omega) (by omega) (by simpa [List.replicate_succ] using l_d3) (by simp [List.replicate_succ]) ?_ (by omega)
    simp [rdij, List.replicate_succ, show (i + 3) / 3 = i / 3 + 1 by omega, show (i + 3) % 3 = i % 3 by omega]
theorem sz_small {vs : List Value} (h : vs.length ≤ 1005) : vs.toArray.size ≤ sizeLine := by rw [List.size_toArray, sizeLine_eq]; omega
end Mine
end
section
open PySem
namespace Mine
section
variable {M : Model}
theorem runs_toks {Γ : Ctx} {p : Pos} {t : Sem Fin} {fs : List Frame} {s s' : Shared} {e : End} (h : Runs M Γ p t fs s e s') : s.toks ≤ s'.toks := by
  induction h <;> (try simp only [Shared.setGen] at *) <;> omega
theorem wakes_toks {Γ : Ctx} {p : Pos} {g : Nat} {r : Resume} {s s' : Shared} {res : GenResult} (h : Wakes M Γ p g r s res s') : s.toks ≤ s'.toks := by
  unfold Wakes at h
  split at h
  · exact h.elim
  · split at h
    · obtain ⟨e₁, s₁, h₁, _, _, rfl⟩ := h
      have := runs_toks h₁
      simpa [Shared.setGen] using this
    · obtain ⟨_, rfl⟩ := h; exact Nat.le_refl _
    · obtain ⟨_, rfl⟩ := h; exact Nat.le_refl _
  · obtain ⟨e₁, s₁, h₁, _, _, rfl⟩ := h
    have := runs_toks h₁
    simpa [Shared.setGen] using this
  · obtain ⟨_, rfl⟩ := h; exact Nat.le_refl _
  · obtain ⟨_, rfl⟩ := h; exact Nat.le_refl _
theorem wp_toks {α : Type} {Γ : Ctx} {Q : α → PySem.Pos → Shared → Prop} {E : Value → PySem.Pos → Shared → Prop} (t : Sem α) : ∀ (n : Nat) (p : PySem.Pos) (s : Shared), n ≤ s.toks →
    Sem.wp M Γ t (fun a p' s' => n ≤ s'.toks → Q a p' s') E p s → Sem.wp M Γ t Q E p s := by
  induction t with
  | pure a => intro n p s hn h; exact h hn
  | raise v => intro n p s hn h; exact h
  | unsupported | finish | yield | fork | await | register => intro n p s hn h; exact h
  | rule _ k ih | «at» _ k ih | alloc _ k ih | loadIfAlive _ k ih | point _ k ih | ask k ih | os _ _ k ih | handled _ k ih | newGen _ k ih | stack k ih | thread k ih => intro n p s hn h; exact ih _ n _ _ hn h
  | fresh k ih => intro n p s hn h; exact ih _ n _ _ (Nat.le_succ_of_le hn) h
  | load a _ k ih | genState a k ih => intro n p s hn h; obtain ⟨o, ho, h⟩ := h; exact ⟨o, ho, ih _ n _ _ hn h⟩
  | update a _ f k ih | choose _ _ k ih => intro n p s hn h; obtain ⟨ha, h⟩ := h; exact ⟨ha, ih _ n _ _ hn h⟩
  | call c h g l k ih =>
    intro n p s hn hh
    obtain ⟨r, s', hr, h⟩ := hh
    exact ⟨r, s', hr, ih _ n _ _ (Nat.le_trans hn (runs_toks hr)) h⟩
  | resume g r l k ih =>
    intro n p s hn hh
    obtain ⟨res, s', hw, h⟩ := hh
    exact ⟨res, s', hw, ih _ n _ _ (Nat.le_trans hn (wakes_toks hw)) h⟩
/-- tokens only grow -/
theorem wpAny_toks {α : Type} {A : Around} {t : Sem α} {Q : α → Shared → Prop} {E : Value → Shared → Prop} {s : Shared} (h : wpAny M A t (fun v s' => s.toks ≤ s'.toks → Q v s') E s) : wpAny M A t Q E s :=
  fun Γ p hΓ => wp_toks t s.toks p s (Nat.le_refl _) (h Γ p hΓ)
end
end Mine
end
section
open PySem PySem.W PyProof.Rows PySem.Calls PySem.Spec PyProof.Rows.LCg
namespace Mine
theorem off1_ne {I : Addr} : ∀ {l : List (Addr × Obj)}, Off1 I l → ∀ p ∈ l, p.1 ≠ I
  | [], _, _, hp => nomatch hp
  | _ :: _, h, p, hp => by
    rcases List.mem_cons.mp hp with rfl | hp
    · exact h.1
    · exact off1_ne h.2 p hp
section
variable {prog : Program} {w : World} {A : Around} {E : Value → Shared → Prop} {s : Shared} {h₀ : Heap} {L : Addr} {m : Str → Option Value} {news : List (Addr × Obj)} {env : Env}
/-- how a turn ends -/
def TurnEnd (h₀ : Heap) (L : Addr) (s : Shared) (I : Addr) (oI : Obj) (J : (Str → Option Value) → List (Addr × Obj) → Prop) (f : Flow) (s₃ : Shared) : Prop :=
  f = .next ∧ ∃ h' tk m₂ nw₂, s₃ = { s with heap := h', toks := tk } ∧ Fr h₀ L h' m₂ ∧ News h₀ L h' ((I, oI) :: nw₂) ∧ Off1 I nw₂ ∧ J m₂ nw₂
theorem TurnEnd.intro {I : Addr} {oI : Obj} {J : (Str → Option Value) → List (Addr × Obj) → Prop} {h' : Heap} {tk : Nat} {m₂ : Str → Option Value} {nw₂ : List (Addr × Obj)} (F : Fr h₀ L h' m₂) (N : News h₀ L h' ((I, oI) :: nw₂)) (o : Off1 I nw₂) (j : J m₂ nw₂) :
    TurnEnd h₀ L s I oI J .next { s with heap := h', toks := tk } := ⟨rfl, h', tk, m₂, nw₂, rfl, F, N, o, j⟩
/-- a for over an old list, the tokens told -/
theorem For_list {c : Addr} {items : Array Value} {x : Str} {px pos : PySem.Pos} {iter : Expr} {body : List Stmt} {Q : Flow → Shared → Prop} (hL : env.locals = L) (J : Nat → (Str → Option Value) → List (Addr × Obj) → Prop) (hx : env.kindOf x = some .local)
    (hp : (env.scope.kind == .class || (env.scope.kind == .module && env.locals != env.globals)) = false) (hh : A.handled = none) (hc : h₀.IsList c items) (h0 : J 0 m news)
    (he : wpAny (model prog w) A (eval iter env) (fun xv s₁ => Stp (∃ tk h₁, xv = .ref c ∧ s₁ = { s with heap := h₁, toks := tk } ∧ Fr h₀ L h₁ m ∧ News h₀ L h₁ news)) E s)
    (turn : ∀ i v m₁ nw h₁ tk₁ I oI, items[i]? = some v → J i m₁ nw → s.toks ≤ tk₁ → Off1 I nw → L < I → Fr h₀ L h₁ (fun y => if y = x then some v else m₁ y) → News h₀ L h₁ ((I, oI) :: nw) →
      wpAny (model prog w) A (execs body env) (TurnEnd h₀ L s I oI (J (i + 1))) E { s with heap := h₁, toks := tk₁ })
    (done : ∀ h' tk m' nw, s.toks ≤ tk → J items.size m' nw → Fr h₀ L h' m' → News h₀ L h' nw → Q .next { s with heap := h', toks := tk })
    (hs : ∀ x, foldedSetIterable iter env x = pure x := by intro _; rfl)
    (hE : PassesOwn (model prog w) A env E := by passes_own) :
    wpAny (model prog w) A (exec (.For (.Name x px) iter body [] pos) env) Q E s := by
  subst hL
  refine wpAny_For (wpAny_toks (wpAny_mono he (fun xv s₁ hh1 => ?_) fun _ _ e => e)) hs
  obtain ⟨tk, h₁, rfl, rfl, F, N⟩ := Stp.out hh1
  clear hh1
  intro htk
  have hcl : h₁.IsList c items := hc.at fun o e => F.keep _ _ e
  have hlt : c < h₁.objs.size := by obtain ⟨_, e, _⟩ := hcl; exact Heap.lt_size e
  refine wpAny_pyIter_list hcl ?_
  have up : ∀ b o, h₁.get? b = some o → (h₁.push { cls := .type "list_iterator", data := .fields #[.ref c, .int 0 0] }).get? b = some o := fun b o e => Heap.get?_push_of_some _ e
  have hI0 : h₀.get? h₁.objs.size = none := by
    cases e : h₀.get? h₁.objs.size with
    | none => rfl
    | some o => exact absurd (Heap.lt_size (F.keep _ _ e)) (Nat.lt_irrefl _)
  have hLI : env.locals < h₁.objs.size := F.ns.lt
  generalize hI : h₁.objs.size = I at *
  refine codeAny_forLoop (R := fun r s' => match r with | .ok f => Q f s' | .error e => cameBackBy (model prog w) A env E e s')
    (fun k s' => ∃ h' tk m' nw' i, s' = { s with heap := h', toks := tk } ∧ s.toks ≤ tk ∧ h'.IsListIter I c i ∧ Fr h₀ env.locals h' m' ∧ News h₀ env.locals h' nw' ∧ Off1 I nw' ∧ J i m' nw' ∧ i ≤ items.size ∧ k = items.size + 1 - i) ?_ (items.size + 1)
    ⟨_, tk, m, news, 0, rfl, htk, ⟨_, by rw [← hI]; exact Heap.get?_push_size _ rfl, rfl, rfl⟩, F.keeps up, N.grown up, ?_, h0, Nat.zero_le _, rfl⟩
  · rintro k s' ⟨h', tk', m', nw', i, rfl, htk', hit, F', N', hoff, hJ, hi, rfl⟩
    have hcl' : h'.IsList c items := hc.at fun o e => F'.keep _ _ e
    by_cases hin : i < items.size
    · refine wpAny_passesOwn hE (wpAny_pyNext_list_item (x := items[i]) hit hcl' (by simp [hin]) fun h2 hit2 hsb => ?_)
      have F2 := F'.change hsb (Nat.ne_of_gt hLI) hI0
      have N2 : News h₀ env.locals h2 nw' := fun p hp => ⟨(hsb.2 _ (off1_ne hoff p hp)).trans (N' p hp).1, (N' p hp).2⟩
      refine wpAny_passesOwn hE (wpAny_assign_Name (wpAny_storeName_local hx F2.ns (fun h3 hn3 hs3 => ?_) hp))
      have F3 := F2.set hn3 hs3
      have N3 := N2.set hs3
      obtain ⟨oI, hoI, hcI, hdI⟩ := id hit2
      have hoI3 : h3.get? I = some oI := (hs3.2 I (Nat.ne_of_gt hLI)).trans hoI
      refine wpAny_passesOwn hE (wpAny_mono (wpAny_toks (wpAny_mono (turn i items[i] m' nw' h3 (tk' + 1) I oI (by simp [hin]) hJ (Nat.le_succ_of_le htk') hoff hLI F3 (fun p hp => ?_)) (fun f s3 h3' => ?_) fun _ _ e => e)) (fun f s3 (h3' : TurnEnd h₀ env.locals s I oI (J (i + 1)) f s3 ∧ s.toks ≤ s3.toks) => ?_) fun _ _ e => e)
      · rcases List.mem_cons.mp hp with rfl | hp
        · exact ⟨hoI3, Nat.ne_of_gt hLI, hI0⟩
        · exact N3 p hp
      · intro hle
        exact ⟨h3', Nat.le_trans (Nat.le_succ_of_le htk') hle⟩
      · obtain ⟨⟨rfl, h4, tk4, m4, nw4, rfl, F4, N4, o4, J4⟩, hle⟩ := h3'
        exact ⟨items.size + 1 - (i + 1), by omega, h4, tk4, m4, nw4, i + 1, rfl, hle, ⟨oI, (N4 _ (.head _)).1, hcI, hdI⟩, F4, fun p hp => N4 p (.tail _ hp), o4, J4, hin, rfl⟩
    · have hie : i = items.size := by omega
      subst hie
      refine wpAny_passesOwn hE (wpAny_pyNext_list_end hh hit hcl' (by simp) fun h2 he2 => wpAny_execs_nil ?_)
      have keepN : ∀ p ∈ nw', h2.get? p.1 = some p.2 := fun p hp => he2 _ _ (off1_ne hoff p hp) (N' p hp).1
      refine done h2 tk' m' nw' htk' hJ ⟨F'.ns.at' fun o e => he2 _ o (Nat.ne_of_lt hLI) e, fun b o e => he2 b o (fun q => by rw [q, hI0] at e; cases e) (F'.keep b o e), F'.above⟩ fun p hp => ⟨keepN p hp, (N' p hp).2⟩
  · have : ∀ l : List (Addr × Obj), (∀ p ∈ l, p.1 < I) → Off1 I l := by
      intro l
      induction l with
      | nil => intro _; trivial
      | cons p l ih => intro h; exact ⟨Nat.ne_of_lt (h p (.head _)), ih fun q hq => h q (.tail _ hq)⟩
    exact this news fun p hp => by rw [← hI]; exact Heap.lt_size (N p hp).1
end
theorem Fr.eqm {h₀ h : Heap} {L : Addr} {m m' : Str → Option Value} (F : Fr h₀ L h m) (e : ∀ y, m y = m' y) : Fr h₀ L h m' := (funext e : m = m') ▸ F
theorem lookup_no {y : Str} : ∀ {l : List (Str × Value)}, (∀ kv ∈ l, y ≠ kv.1) → l.lookup y = none
  | [], _ => rfl
  | kv :: l, h => by
    obtain ⟨k, v⟩ := kv
    rw [List.lookup_cons, beq_eq_false_iff_ne.mpr (h _ (.head _))]
    exact lookup_no fun kv hkv => h kv (.tail _ hkv)
theorem is_int {M : Model} {A : Around} {E : Value → Shared → Prop} {s : Shared} {Q : Value → Shared → Prop} {p q : Int} {t u : Tok} (hq : smallInt q = true) (ht : 0 < t) (hu : 0 < u) (htu : t ≠ u) (h : Q (.bool (p == q)) s) : wpAny M A (compareOp .Is (.int p t) (.int q u)) Q E s := by
  have h0 : (t == 0 || u == 0) = false := by
    rw [Bool.or_eq_false_iff, beq_eq_false_iff_ne, beq_eq_false_iff_ne]; exact ⟨Nat.ne_of_gt ht, Nat.ne_of_gt hu⟩
  show wpAny M A (do return .bool (← (if (p == q && smallInt p) = true then (if (t == 0 || u == 0) = true then unsupported "internal:private-int-reached-python" else do rule "is.small-int-cache"; pure true) else isSame.created (p == q) t u : Sem Bool))) Q E s
  cases hpq : (p == q) with
  | true =>
    rw [hpq] at h
    have : p = q := by simpa using hpq
    subst this
    rw [hq, if_pos (by rfl), h0, if_neg (by decide)]
    exact wpAny_bind (wpAny_bind (wpAny_rule (wpAny_pure (wpAny_pure h))))
  | false =>
    rw [hpq] at h
    rw [if_neg (by simp)]
    unfold isSame.created
    rw [h0, if_neg (by decide), if_neg (by simpa using htu), if_pos (by rfl)]
    exact wpAny_bind (wpAny_pure (wpAny_pure h))
def Small (vs : List Value) : Prop := ∀ v ∈ vs, ∃ i t, v = .int i t ∧ 0 < t ∧ t < 600
end Mine
end
section
open PySem PySem.W PyProof.Rows PySem.Calls PySem.Spec PyProof.V
namespace Mine
def smallV : Value → Bool
  | .int _ t => decide (0 < t) && decide (t < 600)
  | _ => false
def DictSmall (h : Heap) (d : Addr) : Prop := ∃ o es ep, h.get? d = some o ∧ o.data = .dict es ep ∧ es.toList.all (fun e => smallV e.val) = true
theorem DictSmall.keeps {h h' : Heap} {d : Addr} (x : DictSmall h d) (k : ∀ b o, h.get? b = some o → h'.get? b = some o) : DictSmall h' d := let ⟨o, es, ep, a, b, c⟩ := x; ⟨o, es, ep, k _ _ a, b, c⟩
section
variable {prog : Program} {w : World} {A : Around} {E : Value → Shared → Prop} {s : Shared}
theorem pairs_val {K : Type} [DecidableEq K] {knd : KeyKind prog w K} {es : List DictEntry} {kvs : List (K × Value)} (h : Pairs knd es kvs) : ∀ kv ∈ kvs, ∃ e ∈ es, e.val = kv.2 := by
  induction h with
  | nil => intro kv hkv; cases hkv
  | @cons e kv es kvs h1 h2 _ ih =>
    intro kv' hkv
    rcases List.mem_cons.mp hkv with rfl | hkv
    · exact ⟨e, .head _, h2⟩
    · obtain ⟨e', he', h'⟩ := ih kv' hkv; exact ⟨e', .tail _ he', h'⟩
theorem get2_small {d : Addr} {D : List (PyData × PyData)} {x : Str} {t : Tok} {Q : Value → Shared → Prop} {dflt : Value} {dd : PyData} (T : StrTab prog w s.heap d D) (hx : Flat dflt dd) (hs : DictSmall s.heap d)
    (h : ∀ v, Flat v ((lookup (.str x) D).getD dd) → ((lookup (.str x) D).isSome = true → smallV v = true) → Q v { s with toks := s.toks + 1 }) : wpAny (model prog w) A (call (.builtin "dict.get") [.ref d, .str x t, dflt]) Q E s := by
  obtain ⟨lo, kvs, hd, hf⟩ := T
  refine call_meetsIn PySem.F.slot_dict_get hd.typeIs PySem.F.entry_dict_get (PySem.F.args_dict_get_3 _ _ _) (meets_dict_get_default _ d (strKind_is prog w x t) lo dflt) ⟨_, hd.mapOf, h _ (hf.getD same_str x hx) fun hsome => ?_⟩
  obtain ⟨dv, hdv⟩ := Option.isSome_iff_exists.mp hsome
  obtain ⟨v, hv, _⟩ := hf.of_lookup same_str hdv
  rw [hv]
  show smallV v = true
  obtain ⟨o, es, ep, ho, hda, hall⟩ := hs
  obtain ⟨o', es', ep', ho', _, hda', _, hp, _⟩ := hd
  rw [ho] at ho'; cases ho'
  rw [hda] at hda'; cases hda'
  unfold valueAt at hv
  obtain ⟨kv, hkv, rfl⟩ := Option.map_eq_some_iff.mp hv
  obtain ⟨e, he, hev⟩ := pairs_val hp kv (List.mem_of_find?_eq_some hkv)
  rw [← hev]
  exact List.all_eq_true.mp hall e he
end
theorem small_snoc {vs : List Value} (h : Small vs) {i : Int} {t : Tok} (ht : smallV (.int i t) = true) : Small (vs ++ [.int i t]) := by
  intro v hv
  rcases List.mem_append.mp hv with hv | hv
  · exact h v hv
  · rw [List.mem_singleton.mp hv]
    unfold smallV at ht
    simp only [Bool.and_eq_true, decide_eq_true_eq] at ht
    exact ⟨i, t, rfl, ht⟩
theorem small_nil : Small [] := fun _ h => nomatch h
end Mine
end
section
open PySem PySem.W PyProof.Rows PySem.Calls PySem.Spec PyProof.V
namespace Mine
def TABS : List (Str × PyData) := keysT.map fun kv => (⟨kv.1.toArray⟩, .int kv.2)
theorem small77 {P : Params} {h : Heap} (X : (hd.heap_1 P).In h) : DictSmall h 77 := ⟨_, _, _, X 77 _ (by rfl), rfl, by kernel_rfl⟩
theorem tab77 {w : World} {h : Heap} (X : (hd.heap_1 w.params).In h) : StrTab PySem.Challenge.rw_to0014_01.row.prog w h 77 TAB := by
  have := KTD.strTab_of_look PySem.Challenge.rw_to0014_01.row.prog w (get := fun a => (hd.heap_1 w.params).lookup a) (h := h) (fun a o e => X a o e) (a := 77) (D := TABS) (by kernel_rfl) (by decide +kernel) (by kernel_rfl)
  have e : TABS.map (fun p => (PyData.str p.1, p.2)) = TAB := by kernel_rfl
  rw [e] at this
  exact this
theorem get77 {w : World} {A : Around} {E : Value → Shared → Prop} {s : Shared} {h₀ : Heap} {L : Addr} {m : Str → Option Value} {x : Str} {t tz : Tok} {Q : Value → Shared → Prop} (F : Fr h₀ L s.heap m) (T : StrTab PySem.Challenge.rw_to0014_01.row.prog w h₀ 77 TAB) (hs : DictSmall h₀ 77)
    (h : ∀ v, Flat v ((lookup (.str x) TAB).getD (.int 0)) → ((lookup (.str x) TAB).isSome = true → smallV v = true) → Q v { s with toks := s.toks + 1 }) : wpAny (model PySem.Challenge.rw_to0014_01.row.prog w) A (call (.builtin "dict.get") [.ref 77, .str x t, .int 0 tz]) Q E s :=
  get2_small (TabAt.keep T F.keep) (Flat.int _ _) (hs.keeps F.keep) h
theorem in_tab_eq (S : Str) : (lookup (.str S) TAB).isSome = inTab S := by
  have : ∀ l : List (List Nat × Int), (lookup (.str S) (l.map fun kv => (PyData.str ⟨kv.1.toArray⟩, PyData.int kv.2))).isSome = inTabL S l := by
    intro l
    induction l with
    | nil => rfl
    | cons kv l ih =>
      rw [inTabL, ← ih, List.map_cons, Spec.lookup, same_str]
      by_cases h : S = ⟨kv.1.toArray⟩
      · rw [decide_eq_true h, decide_eq_true h.symm]; rfl
      · rw [decide_eq_false h, decide_eq_false fun e => h e.symm]; rfl
  exact this keysT
end Mine
end
section
open PySem PySem.Sre
namespace Mine
def c1 : Array Nat := #[14, 4, 0, 1, 1, 6, 1, 16, 46, 1]
def c2 : Array Nat := #[14, 9, 4, 1, 2, 16, 10, 16, 13, 0, 7, 7, 16, 13, 16, 10, 15, 18, 5, 16, 10, 15, 13, 11, 16, 13, 5, 5, 0, 16, 10, 1, 15, 2, 0, 1]
def mk (c t : Array Nat) (st ls pc pos hd : Nat) (o : Bool) (fr : List PySem.Sre.Frame) (wt : Nat) (an : Option Bool) (sn : Seen) : M :=
  { code := c, text := t, lim := t.size, start := st, lastStart := ls, pc := pc, pos := pos, handed := hd, outermost := o, marks := #[], frames := fr, weight := wt, answer := an, seen := sn }
structure Reach (m : M) (n : Nat) (m' : M) : Prop where
  go : ∀ k, M.runFor (n + k) m = M.runFor k m'
theorem Reach.trans {m m' m'' : M} {a b : Nat} (x : Reach m a m') (y : Reach m' b m'') : Reach m (a + b) m'' := ⟨fun k => by rw [Nat.add_assoc, x.go, y.go]⟩
theorem Reach.step {m m' : M} (h : m.outcome = none) (e : m.step = m') : Reach m 1 m' := ⟨fun k => by
  rw [Nat.add_comm]; show (if m.outcome.isSome then m else M.runFor k m.step) = _
  rw [h, e]; rfl⟩
theorem Reach.refl (m : M) : Reach m 0 m := ⟨fun k => by rw [Nat.zero_add]⟩
def F1 (s : Nat) (f : Bool) : PySem.Sre.Frame := { wait := .nextStart, pc := 5, pos := s, outermost := f }
section
variable (t : Array Nat) (st ls p hd : Nat) (o : Bool) (fr : List PySem.Sre.Frame) (wt : Nat) (sn : Seen)
theorem s1_5 (h : (p == 0 || t.getD (p - 1) 0 == 10) = true) : Reach (mk c1 t st ls 5 p hd o fr wt none sn) 1 (mk c1 t st ls 7 p hd o fr wt none ((sn.add 6).add 44)) := by
  refine Reach.step rfl ?_
  have e : (mk c1 t st ls 5 p hd o fr wt none (sn.add 6)).isAt 1 = .ok true := by rw [← h]; rfl
  show (match (mk c1 t st ls 5 p hd o fr wt none (sn.add 6)).isAt 1 with | .error why => (mk c1 t st ls 5 p hd o fr wt none (sn.add 6)).stick why | .ok yes => let m := { mk c1 t st ls 5 p hd o fr wt none (sn.add 6) with seen := (sn.add 6).add 44 }; if yes then { m with pc := m.pc + 2 } else m.say false) = _
  rw [e]; rfl
theorem s1_5n (h : (p == 0 || t.getD (p - 1) 0 == 10) = false) : Reach (mk c1 t st ls 5 p hd o fr wt none sn) 1 (mk c1 t st ls 5 p hd o fr wt (some false) ((sn.add 6).add 44)) := by
  refine Reach.step rfl ?_
  have e : (mk c1 t st ls 5 p hd o fr wt none (sn.add 6)).isAt 1 = .ok false := by rw [← h]; rfl
  show (match (mk c1 t st ls 5 p hd o fr wt none (sn.add 6)).isAt 1 with | .error why => (mk c1 t st ls 5 p hd o fr wt none (sn.add 6)).stick why | .ok yes => let m := { mk c1 t st ls 5 p hd o fr wt none (sn.add 6) with seen := (sn.add 6).add 44 }; if yes then { m with pc := m.pc + 2 } else m.say false) = _
  rw [e]; rfl
theorem s1_7 (h : p < t.size) (e : t.getD p 0 = 46) : Reach (mk c1 t st ls 7 p hd o fr wt none sn) 1 (mk c1 t st ls 9 (p + 1) hd o fr wt none (sn.add 16)) := by
  refine Reach.step rfl ?_
  show (if p ≥ t.size then (mk c1 t st ls 7 p hd o fr wt none (sn.add 16)).say false else match accepts c1 7 (t.getD p 0) (sn.add 16) with | .error why => (mk c1 t st ls 7 p hd o fr wt none (sn.add 16)).stick why | .ok (false, seen) => { mk c1 t st ls 7 p hd o fr wt none (sn.add 16) with seen }.say false | .ok (true, seen) => { mk c1 t st ls 7 p hd o fr wt none (sn.add 16) with seen, pc := 7 + itemWidth c1 7, pos := p + 1 }) = _
  rw [if_neg (by omega), e]; rfl
theorem s1_7n (h : t.size ≤ p ∨ t.getD p 0 ≠ 46) : Reach (mk c1 t st ls 7 p hd o fr wt none sn) 1 (mk c1 t st ls 7 p hd o fr wt (some false) (sn.add 16)) := by
  refine Reach.step rfl ?_
  show (if p ≥ t.size then (mk c1 t st ls 7 p hd o fr wt none (sn.add 16)).say false else match accepts c1 7 (t.getD p 0) (sn.add 16) with | .error why => (mk c1 t st ls 7 p hd o fr wt none (sn.add 16)).stick why | .ok (false, seen) => { mk c1 t st ls 7 p hd o fr wt none (sn.add 16) with seen }.say false | .ok (true, seen) => { mk c1 t st ls 7 p hd o fr wt none (sn.add 16) with seen, pc := 7 + itemWidth c1 7, pos := p + 1 }) = _
  by_cases hp : p ≥ t.size
  · rw [if_pos hp]; rfl
  · have ea : accepts c1 7 (t.getD p 0) (sn.add 16) = .ok (t.getD p 0 == 46, sn.add 16) := rfl
    rw [if_neg hp, ea, beq_eq_false_iff_ne.mpr (h.resolve_left hp)]; rfl
theorem s1_9 : Reach (mk c1 t st ls 9 p hd o fr wt none sn) 1 (mk c1 t st ls 9 p p o fr wt (some true) (sn.add 1)) := by
  refine Reach.step rfl ?_
  cases o <;> rfl
def F2 (s : Nat) (f : Bool) : PySem.Sre.Frame := { wait := .nextStart, pc := 10, pos := s, outermost := f }
def FB (pc s : Nat) (f : Bool) : PySem.Sre.Frame := { wait := .nextBranch, pc := pc, pos := s, outermost := f, kept := { lastmark := -1, lastindex := -1, whole := false, marks := #[] } }
def FL (s : Nat) (f : Bool) : PySem.Sre.Frame := { wait := .lookNot, pc := 26, pos := s, outermost := f, kept := { lastmark := -1, lastindex := -1, whole := false, marks := #[] } }
theorem s1_next (pc s : Nat) (f : Bool) (h : s < ls) : Reach (mk c1 t st ls pc p hd o [F1 s f] 1 (some false) sn) 1 (mk c1 t (s + 1) ls 5 (s + 1) (s + 1) false [F1 (s + 1) false] 1 none sn) := by
  refine Reach.step rfl ?_
  show (if s < ls then _ else _) = _
  rw [if_pos h]; rfl
theorem s1_last (pc s : Nat) (f : Bool) (h : ¬ s < ls) : Reach (mk c1 t st ls pc p hd o [F1 s f] 1 (some false) sn) 1 (mk c1 t st ls 5 s hd f [] 0 (some false) sn) := by
  refine Reach.step rfl ?_
  show (if s < ls then _ else _) = _
  rw [if_neg h]; rfl
theorem s2_12 (h : p < t.size) (e : t.getD p 0 = 13) : Reach (mk c2 t st ls 12 p hd o fr wt none sn) 1 (mk c2 t st ls 14 (p + 1) hd o fr wt none (sn.add 16)) := by
  refine Reach.step rfl ?_
  show (if p ≥ t.size then (mk c2 t st ls 12 p hd o fr wt none (sn.add 16)).say false else match accepts c2 12 (t.getD p 0) (sn.add 16) with | .error why => (mk c2 t st ls 12 p hd o fr wt none (sn.add 16)).stick why | .ok (false, seen) => { mk c2 t st ls 12 p hd o fr wt none (sn.add 16) with seen }.say false | .ok (true, seen) => { mk c2 t st ls 12 p hd o fr wt none (sn.add 16) with seen, pc := 12 + itemWidth c2 12, pos := p + 1 }) = _
  rw [if_neg (by omega), e]; rfl
theorem s2_12n (h : t.size ≤ p ∨ t.getD p 0 ≠ 13) : Reach (mk c2 t st ls 12 p hd o fr wt none sn) 1 (mk c2 t st ls 12 p hd o fr wt (some false) (sn.add 16)) := by
  refine Reach.step rfl ?_
  show (if p ≥ t.size then (mk c2 t st ls 12 p hd o fr wt none (sn.add 16)).say false else match accepts c2 12 (t.getD p 0) (sn.add 16) with | .error why => (mk c2 t st ls 12 p hd o fr wt none (sn.add 16)).stick why | .ok (false, seen) => { mk c2 t st ls 12 p hd o fr wt none (sn.add 16) with seen }.say false | .ok (true, seen) => { mk c2 t st ls 12 p hd o fr wt none (sn.add 16) with seen, pc := 12 + itemWidth c2 12, pos := p + 1 }) = _
  by_cases hp : p ≥ t.size
  · rw [if_pos hp]; rfl
  · have ea : accepts c2 12 (t.getD p 0) (sn.add 16) = .ok (t.getD p 0 == 13, sn.add 16) := rfl
    rw [if_neg hp, ea, beq_eq_false_iff_ne.mpr (h.resolve_left hp)]; rfl
theorem s2_14 (h : p < t.size) (e : t.getD p 0 = 10) : Reach (mk c2 t st ls 14 p hd o fr wt none sn) 1 (mk c2 t st ls 16 (p + 1) hd o fr wt none (sn.add 16)) := by
  refine Reach.step rfl ?_
  show (if p ≥ t.size then (mk c2 t st ls 14 p hd o fr wt none (sn.add 16)).say false else match accepts c2 14 (t.getD p 0) (sn.add 16) with | .error why => (mk c2 t st ls 14 p hd o fr wt none (sn.add 16)).stick why | .ok (false, seen) => { mk c2 t st ls 14 p hd o fr wt none (sn.add 16) with seen }.say false | .ok (true, seen) => { mk c2 t st ls 14 p hd o fr wt none (sn.add 16) with seen, pc := 14 + itemWidth c2 14, pos := p + 1 }) = _
  rw [if_neg (by omega), e]; rfl
theorem s2_14n (h : t.size ≤ p ∨ t.getD p 0 ≠ 10) : Reach (mk c2 t st ls 14 p hd o fr wt none sn) 1 (mk c2 t st ls 14 p hd o fr wt (some false) (sn.add 16)) := by
  refine Reach.step rfl ?_
  show (if p ≥ t.size then (mk c2 t st ls 14 p hd o fr wt none (sn.add 16)).say false else match accepts c2 14 (t.getD p 0) (sn.add 16) with | .error why => (mk c2 t st ls 14 p hd o fr wt none (sn.add 16)).stick why | .ok (false, seen) => { mk c2 t st ls 14 p hd o fr wt none (sn.add 16) with seen }.say false | .ok (true, seen) => { mk c2 t st ls 14 p hd o fr wt none (sn.add 16) with seen, pc := 14 + itemWidth c2 14, pos := p + 1 }) = _
  by_cases hp : p ≥ t.size
  · rw [if_pos hp]; rfl
  · have ea : accepts c2 14 (t.getD p 0) (sn.add 16) = .ok (t.getD p 0 == 10, sn.add 16) := rfl
    rw [if_neg hp, ea, beq_eq_false_iff_ne.mpr (h.resolve_left hp)]; rfl
theorem s2_19 (h : p < t.size) (e : t.getD p 0 = 10) : Reach (mk c2 t st ls 19 p hd o fr wt none sn) 1 (mk c2 t st ls 21 (p + 1) hd o fr wt none (sn.add 16)) := by
  refine Reach.step rfl ?_
  show (if p ≥ t.size then (mk c2 t st ls 19 p hd o fr wt none (sn.add 16)).say false else match accepts c2 19 (t.getD p 0) (sn.add 16) with | .error why => (mk c2 t st ls 19 p hd o fr wt none (sn.add 16)).stick why | .ok (false, seen) => { mk c2 t st ls 19 p hd o fr wt none (sn.add 16) with seen }.say false | .ok (true, seen) => { mk c2 t st ls 19 p hd o fr wt none (sn.add 16) with seen, pc := 19 + itemWidth c2 19, pos := p + 1 }) = _
  rw [if_neg (by omega), e]; rfl
theorem s2_19n (h : t.size ≤ p ∨ t.getD p 0 ≠ 10) : Reach (mk c2 t st ls 19 p hd o fr wt none sn) 1 (mk c2 t st ls 19 p hd o fr wt (some false) (sn.add 16)) := by
  refine Reach.step rfl ?_
  show (if p ≥ t.size then (mk c2 t st ls 19 p hd o fr wt none (sn.add 16)).say false else match accepts c2 19 (t.getD p 0) (sn.add 16) with | .error why => (mk c2 t st ls 19 p hd o fr wt none (sn.add 16)).stick why | .ok (false, seen) => { mk c2 t st ls 19 p hd o fr wt none (sn.add 16) with seen }.say false | .ok (true, seen) => { mk c2 t st ls 19 p hd o fr wt none (sn.add 16) with seen, pc := 19 + itemWidth c2 19, pos := p + 1 }) = _
  by_cases hp : p ≥ t.size
  · rw [if_pos hp]; rfl
  · have ea : accepts c2 19 (t.getD p 0) (sn.add 16) = .ok (t.getD p 0 == 10, sn.add 16) := rfl
    rw [if_neg hp, ea, beq_eq_false_iff_ne.mpr (h.resolve_left hp)]; rfl
theorem s2_24 (h : p < t.size) (e : t.getD p 0 = 13) : Reach (mk c2 t st ls 24 p hd o fr wt none sn) 1 (mk c2 t st ls 26 (p + 1) hd o fr wt none (sn.add 16)) := by
  refine Reach.step rfl ?_
  show (if p ≥ t.size then (mk c2 t st ls 24 p hd o fr wt none (sn.add 16)).say false else match accepts c2 24 (t.getD p 0) (sn.add 16) with | .error why => (mk c2 t st ls 24 p hd o fr wt none (sn.add 16)).stick why | .ok (false, seen) => { mk c2 t st ls 24 p hd o fr wt none (sn.add 16) with seen }.say false | .ok (true, seen) => { mk c2 t st ls 24 p hd o fr wt none (sn.add 16) with seen, pc := 24 + itemWidth c2 24, pos := p + 1 }) = _
  rw [if_neg (by omega), e]; rfl
theorem s2_24n (h : t.size ≤ p ∨ t.getD p 0 ≠ 13) : Reach (mk c2 t st ls 24 p hd o fr wt none sn) 1 (mk c2 t st ls 24 p hd o fr wt (some false) (sn.add 16)) := by
  refine Reach.step rfl ?_
  show (if p ≥ t.size then (mk c2 t st ls 24 p hd o fr wt none (sn.add 16)).say false else match accepts c2 24 (t.getD p 0) (sn.add 16) with | .error why => (mk c2 t st ls 24 p hd o fr wt none (sn.add 16)).stick why | .ok (false, seen) => { mk c2 t st ls 24 p hd o fr wt none (sn.add 16) with seen }.say false | .ok (true, seen) => { mk c2 t st ls 24 p hd o fr wt none (sn.add 16) with seen, pc := 24 + itemWidth c2 24, pos := p + 1 }) = _
  by_cases hp : p ≥ t.size
  · rw [if_pos hp]; rfl
  · have ea : accepts c2 24 (t.getD p 0) (sn.add 16) = .ok (t.getD p 0 == 13, sn.add 16) := rfl
    rw [if_neg hp, ea, beq_eq_false_iff_ne.mpr (h.resolve_left hp)]; rfl
theorem s2_29 (h : p < t.size) (e : t.getD p 0 = 10) : Reach (mk c2 t st ls 29 p hd o fr wt none sn) 1 (mk c2 t st ls 31 (p + 1) hd o fr wt none (sn.add 16)) := by
  refine Reach.step rfl ?_
  show (if p ≥ t.size then (mk c2 t st ls 29 p hd o fr wt none (sn.add 16)).say false else match accepts c2 29 (t.getD p 0) (sn.add 16) with | .error why => (mk c2 t st ls 29 p hd o fr wt none (sn.add 16)).stick why | .ok (false, seen) => { mk c2 t st ls 29 p hd o fr wt none (sn.add 16) with seen }.say false | .ok (true, seen) => { mk c2 t st ls 29 p hd o fr wt none (sn.add 16) with seen, pc := 29 + itemWidth c2 29, pos := p + 1 }) = _
  rw [if_neg (by omega), e]; rfl
theorem s2_29n (h : t.size ≤ p ∨ t.getD p 0 ≠ 10) : Reach (mk c2 t st ls 29 p hd o fr wt none sn) 1 (mk c2 t st ls 29 p hd o fr wt (some false) (sn.add 16)) := by
  refine Reach.step rfl ?_
  show (if p ≥ t.size then (mk c2 t st ls 29 p hd o fr wt none (sn.add 16)).say false else match accepts c2 29 (t.getD p 0) (sn.add 16) with | .error why => (mk c2 t st ls 29 p hd o fr wt none (sn.add 16)).stick why | .ok (false, seen) => { mk c2 t st ls 29 p hd o fr wt none (sn.add 16) with seen }.say false | .ok (true, seen) => { mk c2 t st ls 29 p hd o fr wt none (sn.add 16) with seen, pc := 29 + itemWidth c2 29, pos := p + 1 }) = _
  by_cases hp : p ≥ t.size
  · rw [if_pos hp]; rfl
  · have ea : accepts c2 29 (t.getD p 0) (sn.add 16) = .ok (t.getD p 0 == 10, sn.add 16) := rfl
    rw [if_neg hp, ea, beq_eq_false_iff_ne.mpr (h.resolve_left hp)]; rfl
theorem s2_16 : Reach (mk c2 t st ls 16 p hd o fr wt none sn) 1 (mk c2 t st ls 35 p hd o fr wt none (sn.add 15)) := Reach.step rfl rfl
theorem s2_21 : Reach (mk c2 t st ls 21 p hd o fr wt none sn) 1 (mk c2 t st ls 35 p hd o fr wt none (sn.add 15)) := Reach.step rfl rfl
theorem s2_32 : Reach (mk c2 t st ls 32 p hd o fr wt none sn) 1 (mk c2 t st ls 35 p hd o fr wt none (sn.add 15)) := Reach.step rfl rfl
theorem s2_10 : Reach (mk c2 t st ls 10 p hd o fr 1 none sn) 1 (mk c2 t st ls 12 p p o (FB 11 p o :: fr) 2 none (sn.add 7)) := Reach.step rfl rfl
theorem s2_26 : Reach (mk c2 t st ls 26 p hd o fr 2 none sn) 1 (mk c2 t st ls 29 p p false (FL p o :: fr) 3 none (sn.add 5)) := Reach.step rfl rfl
theorem s2_35 : Reach (mk c2 t st ls 35 p hd o fr wt none sn) 1 (mk c2 t st ls 35 p p o fr wt (some true) (sn.add 1)) := by
  refine Reach.step rfl ?_
  cases o <;> rfl
theorem s2_b11 (pc s : Nat) (f : Bool) : Reach (mk c2 t st ls pc p hd o (FB 11 s f :: fr) 2 (some false) sn) 1 (mk c2 t st ls 19 s s f (FB 18 s f :: fr) 2 none sn) := Reach.step rfl rfl
theorem s2_b18 (pc s : Nat) (f : Bool) : Reach (mk c2 t st ls pc p hd o (FB 18 s f :: fr) 2 (some false) sn) 1 (mk c2 t st ls 24 s s f (FB 23 s f :: fr) 2 none sn) := Reach.step rfl rfl
theorem s2_l (pc s : Nat) (f : Bool) : Reach (mk c2 t st ls pc p hd o (FL s f :: fr) 3 (some false) sn) 1 (mk c2 t st ls 32 s hd f fr 2 none sn) := Reach.step rfl rfl
theorem s2_by (pc b s : Nat) (f : Bool) : Reach (mk c2 t st ls pc p hd o (FB b s f :: fr) 2 (some true) sn) 1 (mk c2 t st ls b s hd f fr 1 (some true) sn) := Reach.step rfl rfl
theorem s2_fy (pc s : Nat) (f : Bool) : Reach (mk c2 t st ls pc p hd o [F2 s f] 1 (some true) sn) 1 (mk c2 t st ls 10 s hd f [] 0 (some true) sn) := Reach.step rfl rfl
theorem s1_fy (pc s : Nat) (f : Bool) : Reach (mk c1 t st ls pc p hd o [F1 s f] 1 (some true) sn) 1 (mk c1 t st ls 5 s hd f [] 0 (some true) sn) := Reach.step rfl rfl
end
/-- the search ends with a find from q to e -/
def Hit (N : Nat) (m : M) (q e : Nat) : Prop := ∃ n m', n ≤ N ∧ Reach m n m' ∧ m'.outcome = some .matched ∧ m'.start = q ∧ m'.handed = e
def Miss (N : Nat) (m : M) : Prop := ∃ n m', n ≤ N ∧ Reach m n m' ∧ m'.outcome = some .failed
theorem Hit.of {m m' : M} {a N q e : Nat} (r : Reach m a m') (h : Hit N m' q e) : Hit (a + N) m q e :=
  let ⟨n, m'', hn, r', x⟩ := h; ⟨a + n, m'', by omega, r.trans r', x⟩
theorem Miss.of {m m' : M} {a N : Nat} (r : Reach m a m') (h : Miss N m') : Miss (a + N) m :=
  let ⟨n, m'', hn, r', x⟩ := h; ⟨a + n, m'', by omega, r.trans r', x⟩
theorem Hit.le {m : M} {N N' q e : Nat} (h : Hit N m q e) (hN : N ≤ N') : Hit N' m q e := let ⟨n, m', hn, x⟩ := h; ⟨n, m', by omega, x⟩
theorem Miss.le {m : M} {N N' : Nat} (h : Miss N m) (hN : N ≤ N') : Miss N' m := let ⟨n, m', hn, x⟩ := h; ⟨n, m', by omega, x⟩
theorem hit_end (c t : Array Nat) (st ls pc p hd : Nat) (o : Bool) (wt : Nat) (sn : Seen) : Hit 1 (mk c t st ls pc p hd o [] wt (some true) sn) st hd :=
  ⟨1, _, Nat.le_refl _, Reach.step rfl rfl, rfl, rfl, rfl⟩
theorem miss_end (c t : Array Nat) (st ls pc p hd : Nat) (o : Bool) (wt : Nat) (sn : Seen) : Miss 1 (mk c t st ls pc p hd o [] wt (some false) sn) :=
  ⟨1, _, Nat.le_refl _, Reach.step rfl rfl, rfl⟩
section
variable (t : Array Nat)
theorem hit2_crlf (q ls : Nat) (f : Bool) (sn : Seen) (hq : q + 1 < t.size) (h1 : t.getD q 0 = 13) (h2 : t.getD (q + 1) 0 = 10) :
    Hit 20 (mk c2 t q ls 10 q q f [F2 q f] 1 none sn) q (q + 2) := by
  refine Hit.le (Hit.of (s2_10 ..) (Hit.of (s2_12 (h := by omega) (e := h1) ..) (Hit.of (s2_14 (h := by omega) (e := h2) ..) (Hit.of (s2_16 ..) (Hit.of (s2_35 ..) (Hit.of (s2_by ..) (Hit.of (s2_fy ..) (hit_end ..)))))))) (by decide)
theorem hit2_lf (q ls : Nat) (f : Bool) (sn : Seen) (hq : q < t.size) (h1 : t.getD q 0 = 10) :
    Hit 20 (mk c2 t q ls 10 q q f [F2 q f] 1 none sn) q (q + 1) := by
  refine Hit.le (Hit.of (s2_10 ..) (Hit.of (s2_12n (h := .inr (by rw [h1]; decide)) ..) (Hit.of (s2_b11 ..) (Hit.of (s2_19 (h := by omega) (e := h1) ..) (Hit.of (s2_21 ..) (Hit.of (s2_35 ..) (Hit.of (s2_by ..) (Hit.of (s2_fy ..) (hit_end ..))))))))) (by decide)
theorem hit2_cr (q ls : Nat) (f : Bool) (sn : Seen) (hq : q < t.size) (h1 : t.getD q 0 = 13) (h2 : t.size ≤ q + 1 ∨ t.getD (q + 1) 0 ≠ 10) :
    Hit 20 (mk c2 t q ls 10 q q f [F2 q f] 1 none sn) q (q + 1) := by
  refine Hit.le (Hit.of (s2_10 ..) (Hit.of (s2_12 (h := by omega) (e := h1) ..) (Hit.of (s2_14n (h := h2) ..) (Hit.of (s2_b11 ..) (Hit.of (s2_19n (h := .inr (by rw [h1]; decide)) ..) (Hit.of (s2_b18 ..) (Hit.of (s2_24 (h := by omega) (e := h1) ..)
    (Hit.of (s2_26 ..) (Hit.of (s2_29n (h := h2) ..) (Hit.of (s2_l ..) (Hit.of (s2_32 ..) (Hit.of (s2_35 ..) (Hit.of (s2_by ..) (Hit.of (s2_fy ..) (hit_end ..))))))))))))))) (by decide)
/-- the first pattern finds at i -/
def Good1 (i : Nat) : Prop := (i = 0 ∨ t.getD (i - 1) 0 = 10) ∧ i < t.size ∧ t.getD i 0 = 46
theorem at_true {i : Nat} (h : i = 0 ∨ t.getD (i - 1) 0 = 10) : (i == 0 || t.getD (i - 1) 0 == 10) = true := by
  rcases h with h | h <;> simp [h]
theorem at_false {i : Nat} (h : ¬ (i = 0 ∨ t.getD (i - 1) 0 = 10)) : (i == 0 || t.getD (i - 1) 0 == 10) = false := by
  simp only [not_or] at h
  rw [Bool.or_eq_false_iff, beq_eq_false_iff_ne, beq_eq_false_iff_ne]
  exact h
theorem fail1 (p ls : Nat) (f : Bool) (sn : Seen) (h : ¬ Good1 t p) : ∃ n sn' pc, n ≤ 2 ∧ Reach (mk c1 t p ls 5 p p f [F1 p f] 1 none sn) n (mk c1 t p ls pc p p f [F1 p f] 1 (some false) sn') := by
  by_cases ha : p = 0 ∨ t.getD (p - 1) 0 = 10
  · refine ⟨1 + 1, _, _, by decide, (s1_5 (h := at_true t ha) ..).trans (s1_7n (h := ?_) ..)⟩
    by_cases hp : t.size ≤ p
    · exact .inl hp
    · exact .inr fun e => h ⟨ha, by omega, e⟩
  · exact ⟨1, _, _, by decide, s1_5n (h := at_false t ha) ..⟩
theorem hit1 (p ls : Nat) (f : Bool) (sn : Seen) (h : Good1 t p) : Hit 10 (mk c1 t p ls 5 p p f [F1 p f] 1 none sn) p (p + 1) :=
  Hit.le (Hit.of (s1_5 (h := at_true t h.1) ..) (Hit.of (s1_7 (h := h.2.1) (e := h.2.2) ..) (Hit.of (s1_9 ..) (Hit.of (s1_fy ..) (hit_end ..))))) (by decide)
theorem find1 : ∀ (d p ls : Nat) (f : Bool) (sn : Seen), p + d < ls → (∀ i, i < d → ¬ Good1 t (p + i)) → Good1 t (p + d) → Hit (3 * d + 10) (mk c1 t p ls 5 p p f [F1 p f] 1 none sn) (p + d) (p + d + 1)
  | 0, p, ls, f, sn, _, _, h => hit1 t p ls f sn h
  | d + 1, p, ls, f, sn, hl, hn, h => by
    obtain ⟨n, sn', pc, hn2, r⟩ := fail1 t p ls f sn (hn 0 (by omega))
    have ih := find1 d (p + 1) ls false sn' (by omega) (fun i hi => by have := hn (i + 1) (by omega); rwa [show p + (i + 1) = p + 1 + i by omega] at this) (by rwa [show p + (d + 1) = p + 1 + d by omega] at h)
    have := Hit.of r (Hit.of (s1_next (h := by omega) ..) ih)
    rw [show p + (d + 1) = p + 1 + d by omega]
    exact this.le (by omega)
theorem lost1 : ∀ (d p ls : Nat) (f : Bool) (sn : Seen), p + d = ls → (∀ i, i ≤ d → ¬ Good1 t (p + i)) → Miss (3 * d + 10) (mk c1 t p ls 5 p p f [F1 p f] 1 none sn)
  | 0, p, ls, f, sn, hl, hn => by
    obtain ⟨n, sn', pc, hn2, r⟩ := fail1 t p ls f sn (hn 0 (by omega))
    exact (Miss.of r (Miss.of (s1_last (h := by omega) ..) (miss_end ..))).le (by omega)
  | d + 1, p, ls, f, sn, hl, hn => by
    obtain ⟨n, sn', pc, hn2, r⟩ := fail1 t p ls f sn (hn 0 (by omega))
    have ih := lost1 d (p + 1) ls false sn' (by omega) (fun i hi => by have := hn (i + 1) (by omega); rwa [show p + (i + 1) = p + 1 + i by omega] at this)
    exact (Miss.of r (Miss.of (s1_next (h := by omega) ..) ih)).le (by omega)
theorem search1_eq (p : Nat) (hp : p < t.size) : forSearch c1 t 0 p t.size false = mk c1 t p t.size 5 p p true [F1 p true] 1 none (({} : Seen).add 14) := by
  show (if (decide (p > t.size) || decide (t.size - p < 1)) = true then _ else _) = _
  rw [if_neg (by simp; omega)]; rfl
theorem search1_eq0 (p : Nat) (hp : p = t.size) : forSearch c1 t 0 p t.size false = mk c1 t p 0 5 p p true [] 0 (some false) (({} : Seen).add 14) := by
  show (if (decide (p > t.size) || decide (t.size - p < 1)) = true then _ else _) = _
  rw [if_pos (by simp; omega)]; rfl
theorem search1_hit (p q : Nat) (hpq : p ≤ q) (hn : ∀ i, p ≤ i → i < q → ¬ Good1 t i) (h : Good1 t q) : Hit (3 * t.size + 20) (forSearch c1 t 0 p t.size false) q (q + 1) := by
  have hq := h.2.1
  rw [search1_eq t p (by omega)]
  have := find1 t (q - p) p t.size true (({} : Seen).add 14) (by omega) (fun i hi => hn _ (by omega) (by omega)) (by rwa [show p + (q - p) = q by omega])
  rw [show p + (q - p) = q by omega] at this
  exact this.le (by omega)
theorem search1_miss (p : Nat) (hp : p ≤ t.size) (hn : ∀ i, p ≤ i → i ≤ t.size → ¬ Good1 t i) : Miss (3 * t.size + 20) (forSearch c1 t 0 p t.size false) := by
  by_cases he : p = t.size
  · rw [search1_eq0 t p he]; exact (miss_end ..).le (by omega)
  · rw [search1_eq t p (by omega)]
    exact (lost1 t (t.size - p) p t.size true _ (by omega) (fun i hi => hn _ (by omega) (by omega))).le (by omega)
/-- the second pattern's ends -/
def Good2 (i : Nat) : Prop := i < t.size ∧ (t.getD i 0 = 10 ∨ t.getD i 0 = 13)
theorem inSet_eq (c : Nat) (sn : Seen) : ∃ sn', inSet c2 c c2.size 5 true sn = .ok (c == 10 || c == 13, sn') := by
  show ∃ sn', (if (c == 10) = true then (Except.ok (true, sn.add 16) : Except String (Bool × Seen)) else if (c == 13) = true then .ok (true, (sn.add 16).add 16) else .ok (false, ((sn.add 16).add 16).add 0)) = _
  by_cases h1 : c = 10
  · exact ⟨_, by rw [if_pos (by simpa using h1)]; simp [h1]; rfl⟩
  · by_cases h2 : c = 13
    · exact ⟨_, by rw [if_neg (by simpa using h1), if_pos (by simpa using h2)]; simp [h2]; rfl⟩
    · exact ⟨_, by rw [if_neg (by simpa using h1), if_neg (by simpa using h2)]; simp [h1, h2]; rfl⟩
theorem adm_hit (m : M) (hc : m.code = c2) (ht : m.text = t) (hl : m.lim = t.size) : ∀ (d s fuel : Nat) (sn : Seen), d < fuel → (∀ i, i < d → ¬ Good2 t (s + i)) → Good2 t (s + d) → ∃ sn', M.admitted m fuel s sn = .ok (some (s + d), sn')
  | d, s, 0, sn, hf, _, _ => by omega
  | 0, s, fuel + 1, sn, _, _, h => by
    obtain ⟨sn', e⟩ := inSet_eq (t.getD s 0) sn
    refine ⟨sn', ?_⟩
    have h1 : s < t.size := h.1
    have h2 : (t.getD s 0 == 10 || t.getD s 0 == 13) = true := by rcases h.2 with h2 | h2 <;> (rw [Nat.add_zero] at h2; rw [h2]; decide)
    rw [h2] at e
    rw [M.admitted, hc, ht, hl, if_neg (by omega), e]
    rfl
  | d + 1, s, fuel + 1, sn, hf, hn, h => by
    obtain ⟨sn', e⟩ := inSet_eq (t.getD s 0) sn
    have h1 : s < t.size := by have := h.1; omega
    have h2 : (t.getD s 0 == 10 || t.getD s 0 == 13) = false := by
      have := hn 0 (by omega)
      rw [Bool.or_eq_false_iff, beq_eq_false_iff_ne, beq_eq_false_iff_ne]
      exact not_or.mp fun q => this ⟨h1, q⟩
    obtain ⟨sn2, ih⟩ := adm_hit m hc ht hl d (s + 1) fuel sn' (by omega) (fun i hi => by have := hn (i + 1) (by omega); rwa [show s + (i + 1) = s + 1 + i by omega] at this) (by rwa [show s + (d + 1) = s + 1 + d by omega] at h)
    refine ⟨sn2, ?_⟩
    rw [h2] at e
    rw [M.admitted, hc, ht, hl, if_neg (by omega), e, show s + (d + 1) = s + 1 + d by omega, ← ih]
theorem adm_miss (m : M) (hc : m.code = c2) (ht : m.text = t) (hl : m.lim = t.size) : ∀ (fuel s : Nat) (sn : Seen), (∀ i, s ≤ i → ¬ Good2 t i) → ∃ sn', M.admitted m fuel s sn = .ok (none, sn')
  | 0, s, sn, _ => ⟨sn, rfl⟩
  | fuel + 1, s, sn, hn => by
    by_cases h1 : s < t.size
    · obtain ⟨sn', e⟩ := inSet_eq (t.getD s 0) sn
      have h2 : (t.getD s 0 == 10 || t.getD s 0 == 13) = false := by
        have := hn s (by omega)
        rw [Bool.or_eq_false_iff, beq_eq_false_iff_ne, beq_eq_false_iff_ne]
        exact not_or.mp fun q => this ⟨h1, q⟩
      obtain ⟨sn2, ih⟩ := adm_miss m hc ht hl fuel (s + 1) sn' (fun i hi => hn i (by omega))
      refine ⟨sn2, ?_⟩
      rw [h2] at e
      rw [M.admitted, hc, ht, hl, if_neg (by omega), e, ← ih]
    · exact ⟨sn, by rw [M.admitted, hc, ht, hl, if_pos (by omega)]⟩
theorem search2_eq (p q : Nat) (hpq : p ≤ q) (hn : ∀ i, p ≤ i → i < q → ¬ Good2 t i) (h : Good2 t q) : ∃ sn, forSearch c2 t 0 p t.size false = mk c2 t q t.size 10 q q true [F2 q true] 1 none sn := by
  have hq := h.1
  obtain ⟨sn, e⟩ := adm_hit t (mk c2 t p t.size 10 p p true [] 0 none (({} : Seen).add 14)) rfl rfl rfl (q - p) p (t.size + 1 - p) (({} : Seen).add 14) (by omega) (fun i hi => hn _ (by omega) (by omega)) (by rwa [show p + (q - p) = q by omega])
  refine ⟨sn, ?_⟩
  show (if (decide (p > t.size) || decide (t.size - p < 1)) = true then _ else M.attemptFrom (mk c2 t p t.size 10 p p true [] 0 none (({} : Seen).add 14)) p true) = _
  rw [if_neg (by simp; omega)]
  show (match M.admitted (mk c2 t p t.size 10 p p true [] 0 none (({} : Seen).add 14)) (t.size + 1 - p) p (({} : Seen).add 14) with | .ok (some s, seen) => _ | .ok (none, seen) => _ | .error why => _) = _
  rw [e, show p + (q - p) = q by omega]
  rfl
theorem search2_miss (p : Nat) (hp : p ≤ t.size) (hn : ∀ i, p ≤ i → ¬ Good2 t i) : Miss 20 (forSearch c2 t 0 p t.size false) := by
  by_cases he : p = t.size
  · have : forSearch c2 t 0 p t.size false = mk c2 t p 0 10 p p true [] 0 (some false) (({} : Seen).add 14) := by
      show (if (decide (p > t.size) || decide (t.size - p < 1)) = true then _ else _) = _
      rw [if_pos (by simp; omega)]; rfl
    rw [this]; exact (miss_end ..).le (by omega)
  · obtain ⟨sn, e⟩ := adm_miss t (mk c2 t p t.size 10 p p true [] 0 none (({} : Seen).add 14)) rfl rfl rfl (t.size + 1 - p) p (({} : Seen).add 14) hn
    have : forSearch c2 t 0 p t.size false = mk c2 t p t.size 10 p p true [] 0 (some false) sn := by
      show (if (decide (p > t.size) || decide (t.size - p < 1)) = true then _ else M.attemptFrom (mk c2 t p t.size 10 p p true [] 0 none (({} : Seen).add 14)) p true) = _
      rw [if_neg (by simp; omega)]
      show (match M.admitted (mk c2 t p t.size 10 p p true [] 0 none (({} : Seen).add 14)) (t.size + 1 - p) p (({} : Seen).add 14) with | .ok (some s, seen) => _ | .ok (none, seen) => _ | .error why => _) = _
      rw [e]
      rfl
    rw [this]; exact (miss_end ..).le (by omega)
theorem search2_hit (p q e : Nat) (hpq : p ≤ q) (hn : ∀ i, p ≤ i → i < q → ¬ Good2 t i) (hq : q < t.size)
    (h : (t.getD q 0 = 10 ∧ e = q + 1) ∨ (t.getD q 0 = 13 ∧ q + 1 < t.size ∧ t.getD (q + 1) 0 = 10 ∧ e = q + 2) ∨ (t.getD q 0 = 13 ∧ (t.size ≤ q + 1 ∨ t.getD (q + 1) 0 ≠ 10) ∧ e = q + 1)) :
    Hit 20 (forSearch c2 t 0 p t.size false) q e := by
  have hg : Good2 t q := ⟨hq, by rcases h with h | h | h <;> simp [h.1]⟩
  obtain ⟨sn, e'⟩ := search2_eq t p q hpq hn hg
  rw [e']
  rcases h with ⟨h1, rfl⟩ | ⟨h1, h2, h3, rfl⟩ | ⟨h1, h2, rfl⟩
  · exact hit2_lf t q t.size true sn hq h1
  · exact hit2_crlf t q t.size true sn h2 h1 h3
  · exact hit2_cr t q t.size true sn hq h1 h2
end
end Mine
end
section
open PySem PySem.W PyProof.Rows PySem.Calls PySem.Builtin PySem.Builtin.Re PySem.Sre
namespace Mine
theorem runFor_done {m : M} (h : m.outcome.isSome = true) : ∀ n, M.runFor n m = m
  | 0 => rfl
  | n + 1 => by show (if m.outcome.isSome then m else _) = m; rw [h]; rfl
theorem runFor_add (b : Nat) : ∀ (a : Nat) (m : M), M.runFor (a + b) m = M.runFor b (M.runFor a m)
  | 0, m => by rw [Nat.zero_add]; rfl
  | a + 1, m => by
    rw [show a + 1 + b = (a + b) + 1 by omega]
    show (if m.outcome.isSome then m else M.runFor (a + b) m.step) = M.runFor b (if m.outcome.isSome then m else M.runFor a m.step)
    cases h : m.outcome.isSome
    · exact runFor_add b a m.step
    · exact (runFor_done h b).symm
section
variable {prog : Program} {w : World} {A : Around} {E : Value → Shared → Prop} {s : Shared}
theorem drive {Q : M → Shared → Prop} : ∀ (k n : Nat) (m m' : M), Reach m n m' → m'.outcome.isSome = true → n ≤ 4 * k + 4 → Q m' s → wpAny (model prog w) A (reDrive (k + 1) m) Q E s := by
  intro k
  induction k with
  | zero =>
    intro n m m' r h hn hQ
    have e : M.runFor 4 m = m' := by rw [show 4 = n + (4 - n) by omega, r.go, runFor_done h]
    unfold reDrive
    show wpAny _ _ (if (M.runFor 4 m).outcome.isSome then pure (M.runFor 4 m) else _) _ _ _
    rw [e, if_pos h]
    exact wpAny_pure hQ
  | succ k ih =>
    intro n m m' r h hn hQ
    unfold reDrive
    show wpAny _ _ (if (M.runFor 4 m).outcome.isSome then pure (M.runFor 4 m) else _) _ _ _
    cases hd : (M.runFor 4 m).outcome.isSome with
    | true =>
      have e : M.runFor 4 m = m' := by
        have h1 : M.runFor n (M.runFor 4 m) = M.runFor 4 m := runFor_done hd n
        have h2 : M.runFor (n + 4) m = m' := by rw [r.go, runFor_done h]
        rw [← runFor_add, Nat.add_comm, h2] at h1
        exact h1.symm
      rw [if_pos rfl, e]
      exact wpAny_pure hQ
    | false =>
      rw [if_neg (by decide)]
      refine wpAny_bind (wpAny_rule ?_)
      by_cases h4 : n ≤ 4
      · exfalso
        have e : M.runFor 4 m = m' := by rw [show 4 = n + (4 - n) by omega, r.go, runFor_done h]
        rw [e, h] at hd; cases hd
      · exact ih (n - 4) (M.runFor 4 m) m' ⟨fun j => by rw [← runFor_add, show 4 + (n - 4 + j) = n + j by omega, r.go]⟩ h (by omega) hQ
theorem run_rules {Q : PUnit → Shared → Prop} {f : Nat → PUnit → Sem (ForInStep PUnit)} (hf : ∀ i, (∃ tag, f i ⟨⟩ = (rule tag >>= fun _ => pure (ForInStep.yield PUnit.unit))) ∨ f i ⟨⟩ = pure (ForInStep.yield PUnit.unit)) (h : Q ⟨⟩ s) : ∀ l : List Nat, wpAny (model prog w) A (forIn l PUnit.unit f) Q E s
  | [] => wpAny_pure h
  | i :: l => by
    rw [List.forIn_cons]
    refine wpAny_bind ?_
    have k := run_rules hf h l
    rcases hf i with ⟨tag, e⟩ | e
    · rw [e]; exact wpAny_bind (wpAny_rule (wpAny_pure k))
    · rw [e]; exact wpAny_pure k
theorem run_end {Q : Option M → Shared → Prop} {n : Nat} {m m' : M} (r : Reach m n m') (hn : n ≤ 2 ^ 40) (h : m'.outcome = some .matched ∧ Q (some m') s ∨ m'.outcome = some .failed ∧ Q none s) : wpAny (model prog w) A (reRunToEnd m) Q E s := by
  unfold reRunToEnd
  have hk : (2 : Nat) ^ 64 = (2 ^ 64 - 1) + 1 := by decide
  rw [hk]
  refine wpAny_bind (drive (2 ^ 64 - 1) n m m' r (by rcases h with h | h <;> rw [h.1] <;> rfl) (by have e : (2 : Nat) ^ 64 = 2 ^ 40 * 2 ^ 24 := (by decide); omega) ?_)
  refine wpAny_bind (run_rules (fun i => ?_) ?_ _)
  · cases hs : m'.seen.has i
    · right; rfl
    · left; refine ⟨Sre.names.getD i "", ?_⟩; rfl
  rcases h with h | h <;> rw [h.1]
  · exact wpAny_pure h.2
  · exact wpAny_pure h.2
theorem run_hit {Q : Option M → Shared → Prop} {N q e : Nat} {m : M} (h : Hit N m q e) (hN : N ≤ 2 ^ 40) (hQ : ∀ m' : M, m'.start = q → m'.handed = e → Q (some m') s) : wpAny (model prog w) A (reRunToEnd m) Q E s :=
  let ⟨_, m', hn, r, ho, h1, h2⟩ := h
  run_end r (Nat.le_trans hn hN) (.inl ⟨ho, hQ m' h1 h2⟩)
theorem run_miss {Q : Option M → Shared → Prop} {N : Nat} {m : M} (h : Miss N m) (hN : N ≤ 2 ^ 40) (hQ : Q none s) : wpAny (model prog w) A (reRunToEnd m) Q E s :=
  let ⟨_, _, hn, r, ho⟩ := h
  run_end r (Nat.le_trans hn hN) (.inr ⟨ho, hQ⟩)
end
end Mine
end
section
open PySem PySem.W PyProof.Rows PySem.Calls PySem.Builtin PySem.Builtin.Re PySem.Sre
namespace Mine
def PatAt (h : Heap) (pa : Addr) (code : Array Nat) : Prop := ∃ (op : Obj) (f0 f1 f3 f4 : Value) (tc : Addr) (ot : Obj) (its : Array Value) (k : Nat), h.get? pa = some op ∧ op.cls = .type "re.Pattern" ∧ op.dict = none ∧
  op.data = .fields #[f0, f1, .int 0 0, f3, f4, .ref tc, .int 0 0] ∧ h.get? tc = some ot ∧ ot.cls = .type "tuple" ∧ ot.data = .seq its k ∧ (its.map reRawOf).map (·.toNat) = code
theorem PatAt.but {h h' : Heap} {pa L : Addr} {code : Array Nat} {oL : Obj} (x : PatAt h pa code) (hL : h.get? L = some oL) (hc : oL.cls = .type "list") (k : ∀ b o, b ≠ L → h.get? b = some o → h'.get? b = some o) : PatAt h' pa code := by
  obtain ⟨op, f0, f1, f3, f4, tc, ot, its, n, h1, h2, h3, h4, h5, h6, h7⟩ := x
  refine ⟨op, f0, f1, f3, f4, tc, ot, its, n, k _ _ ?_ h1, h2, h3, h4, k _ _ ?_ h5, h6, h7⟩
  · rintro rfl; rw [hL] at h1; cases h1; rw [hc] at h2; simp at h2
  · rintro rfl; rw [hL] at h5; cases h5; rw [hc] at h6; simp at h6
theorem PatAt.keeps {h h' : Heap} {pa : Addr} {code : Array Nat} (x : PatAt h pa code) (k : ∀ b o, h.get? b = some o → h'.get? b = some o) : PatAt h' pa code := by
  obtain ⟨op, f0, f1, f3, f4, tc, ot, its, n, h1, h2, h3, h4, h5, h6, h7⟩ := x
  exact ⟨op, f0, f1, f3, f4, tc, ot, its, n, k _ _ h1, h2, h3, h4, k _ _ h5, h6, h7⟩
section
variable {prog : Program} {w : World} {A : Around} {E : Value → Shared → Prop} {s : Shared}
theorem whole_target {pa : Addr} {code : Array Nat} {x : Str} {t : Tok} {Q : ReTarget → Shared → Prop} (hp : PatAt s.heap pa code)
    (h : Q { pattern := .ref pa, string := .str x t, code := code, text := x.cps, kind := 0, groups := 0, pos := 0, lim := x.cps.size } s) : wpAny (model prog w) A (reWholeTarget (.ref pa) (.str x t)) Q E s := by
  obtain ⟨op, f0, f1, f3, f4, tc, ot, its, n, h1, h2, h3, h4, h5, h6, h7, h8⟩ := hp
  unfold reWholeTarget
  refine wpAny_bind ?_
  unfold fieldsOf
  refine wpAny_bind (wpAny_load h1 ?_)
  rw [h4]
  refine wpAny_pure ?_
  refine wpAny_bind (wpAny_pure ?_)
  refine wpAny_bind ?_
  refine wpAny_pure ?_
  refine wpAny_bind ?_
  unfold reRawItems
  refine wpAny_bind (wpAny_seqItems h5 h7 (wpAny_pure (wpAny_pure ?_)))
  show Q { pattern := .ref pa, string := .str x t, code := (its.map reRawOf).map (·.toNat), text := x.cps, kind := 0, groups := 0, pos := 0, lim := x.cps.size } s
  rw [h8]
  exact h
def Chain (c t : Array Nat) : Nat → List (Nat × Nat) → Prop
  | p, [] => Miss (2 ^ 40) (forSearch c t 0 p t.size false)
  | p, (q, e) :: r => Hit (2 ^ 40) (forSearch c t 0 p t.size false) q e ∧ p ≤ q ∧ q < e ∧ e ≤ t.size ∧ Chain c t e r
def outOf (t y : List Nat) : Nat → List (Nat × Nat) → List Nat
  | p, [] => t.drop p
  | p, (q, e) :: r => (t.drop p).take (q - p) ++ y ++ outOf t y e r
theorem entry_loop : entryFor table "re.Pattern.sub.loop" = some Builtin.«re.Pattern.sub.loop» := entryFor_of_tree (by kernel_rfl)
def cat (ys : List Str) : List Nat := ys.flatMap fun y => y.cps.toList
theorem glued_cat : ∀ (l : List Str) (acc : Array Nat), ((l.foldl (fun acc p => acc ++ (#[] : Array Nat) ++ p.cps) acc)).toList = acc.toList ++ cat l
  | [], acc => by simp [cat]
  | y :: l, acc => by
    rw [List.foldl_cons, glued_cat l]
    simp [cat]
theorem join_cat (ys : List Str) : (Txt.join ⟨#[]⟩ ys).cps.toList = cat ys := by
  unfold Txt.join Builtin.Str.glued
  rcases ys with _ | ⟨y, l⟩
  · rfl
  · rw [List.drop_one, List.tail_cons, glued_cat]
    simp [cat]
theorem cat_append (a b : List Str) : cat (a ++ b) = cat a ++ cat b := by simp [cat]
def LoopEnd (prog : Program) (w : World) (A : Around) (Q : Value → Shared → Prop) (E : Value → Shared → Prop) (fin : PySem.Fin) (s' : Shared) : Prop :=
  match fin with
  | .done f => (match (Except.ok f : Result) with | .ok (.ret v) => Q v s' | .ok _ => False | .error e => E e s')
  | .again c' => c'.quiet = true ∧ codeAny (model prog w) A c' (fun r s' => match r with | .ok (.ret v) => Q v s' | .ok _ => False | .error e => E e s') s'
/-- the loop's end: the pieces are joined -/
theorem sub_fin {A' : Around} {x : Str} {L : Addr} {n : Int} {Q : Value → Shared → Prop} {s2 : Shared} {vs2 : List Value} {ys2 : List Str} {k2 : Nat} (hL : s2.heap.get? L = some { cls := .type "list", data := .seq vs2.toArray k2 }) (hst : StrsAre vs2 ys2)
    (hsum : (ys2.map (·.length)).sum ≤ 3000000) (hQ : ∀ z tok tk', z.cps.toList = cat ys2 → Q (.str z tok) { s2 with toks := tk' }) :
    wpAny (model prog w) A' (do
      let joiner ← reSlice x.cps 0 0 0
      let it ← seqItems? (.ref L)
      if (it.getD #[]).isEmpty = true then do
        let text ← pure joiner
        if false = true then (do let r ← holding [text] (do let k ← mkInt n; newTuple [text, k]); ret r) else ret text
      else do
        let text ← call (.builtin (if ((0 : Nat) == 0) = true then "str.join" else "bytes.join")) [joiner, .ref L]
        if false = true then (do let r ← holding [text] (do let k ← mkInt n; newTuple [text, k]); ret r) else ret text) (LoopEnd prog w A Q E) E s2 := by
  have hx : (⟨x.cps.extract 0 0⟩ : Str) = ⟨#[]⟩ := by simp
  refine wpAny_bind ?_
  show wpAny _ _ (mkStr ⟨x.cps.extract 0 0⟩) _ _ _
  rw [hx]
  refine wpAny_mkStr ?_ (by show 0 ≤ _; omega)
  refine wpAny_bind (wpAny_seqItems hL rfl ?_)
  by_cases he : vs2 = []
  · subst he
    cases hst
    rw [if_pos (by rfl)]
    refine wpAny_bind (wpAny_pure ?_)
    rw [if_neg (by decide)]
    exact wpAny_pure (hQ _ _ _ rfl)
  · rw [if_neg (by simpa using he)]
    refine wpAny_bind ?_
    rw [if_pos (by rfl)]
    refine join_list (items := vs2.toArray) (ys := ys2) ⟨_, hL, rfl, k2, rfl⟩ (by simpa using hst) (by show _ + _ * 0 ≤ _; omega) fun t' k => ?_
    rw [if_neg (by decide)]
    exact wpAny_pure (hQ _ _ _ (join_cat ys2))
theorem strs_snoc {vs : List Value} {ys : List Str} (h : StrsAre vs ys) (y : Str) (t : Tok) : StrsAre (vs ++ [.str y t]) (ys ++ [y]) := by
  induction h with
  | nil => exact .cons _ _ .nil
  | cons z t' _ ih => exact .cons _ _ ih
theorem push_at {h : Heap} {L : Addr} {vs : List Value} {k : Nat} {v : Value} (hL : h.get? L = some { cls := .type "list", data := .seq vs.toArray k }) :
    (h.update L (Obj.mapSeq (·.push v))).get? L = some { cls := .type "list", data := .seq (vs ++ [v]).toArray (k + 1) } := by
  rw [Heap.get?_update_self _ hL (by rw [mapSeq_push]; rfl), mapSeq_push, List.push_toArray]
theorem push_other {h : Heap} {L : Addr} {f : Obj → Obj} : ∀ b o, b ≠ L → h.get? b = some o → (h.update L f).get? b = some o := fun b o hb e => ((Heap.SameBut.update ..).2 b hb).trans e
/-- one piece more -/
theorem push_piece {A' : Around} {P : Unit → Shared → Prop} {L : Addr} {s2 : Shared} {vs2 : List Value} {k2 : Nat} {v : Value} (hL : s2.heap.get? L = some { cls := .type "list", data := .seq vs2.toArray k2 }) (hl : vs2.length ≤ 10000)
    (h : ∀ h', h'.get? L = some { cls := .type "list", data := .seq (vs2 ++ [v]).toArray (k2 + 1) } → (∀ b o, b ≠ L → s2.heap.get? b = some o → h'.get? b = some o) → P () { s2 with heap := h' }) :
    wpAny (model prog w) A' (updateSeq L fun x => x.push v) P E s2 :=
  wpAny_updateSeq hL rfl (h _ (push_at hL) push_other) (by rw [List.size_toArray, sizeLine_eq]; omega) (by rw [Array.size_push, List.size_toArray, sizeLine_eq]; omega)
theorem sub_loop {pa L : Addr} {c : Array Nat} {x y : Str} {t u : Tok} (hx : x.length ≤ 100000) {Q : Value → Shared → Prop} : ∀ (ms : List (Nat × Nat)) (p : Nat) (n : Int) (s : Shared) (vs : List Value) (ys : List Str) (k : Nat),
    PatAt s.heap pa c → Chain c x.cps p ms → s.heap.get? L = some { cls := .type "list", data := .seq vs.toArray k } → StrsAre vs ys → vs.length + 2 * ms.length ≤ 10000 → (ys.map (·.length)).sum + (x.length - p) + ms.length * y.length ≤ 1000000 →
    (∀ z tok h' tk', z.cps.toList = cat ys ++ outOf x.cps.toList y.cps.toList p ms → (∀ b o, b ≠ L → s.heap.get? b = some o → h'.get? b = some o) → Q (.str z tok) { s with heap := h', toks := tk' }) →
    codeAny (model prog w) A (.builtin "re.Pattern.sub.loop" ⟨[.ref pa, .str x t, .str y u, .int 0 0, .int 0 0, .int n 0, .int (p : Nat) 0, .int (p : Nat) 0, .bool false, .ref L, .bool false], []⟩)
      (fun r s' => match r with | .ok (.ret v) => Q v s' | .ok _ => False | .error e => E e s') s := by
  intro ms
  induction ms with
  | nil =>
    intro p n s vs ys k hp hch hL hst hlen hsum hQ
    refine codeAny_builtin entry_loop ?_
    show wpAny _ _ _ (LoopEnd prog w A Q E) E s
    unfold Builtin.«re.Pattern.sub.loop»
    dsimp only
    refine wpAny_bind (whole_target hp ?_)
    dsimp only
    rw [if_pos (by decide)]
    refine wpAny_bind (wpAny_pure ?_)
    rw [if_neg (by simp)]
    refine wpAny_bind (run_miss (N := 2 ^ 40) hch (Nat.le_refl _) ?_)
    dsimp only
    have hxl : x.length = x.cps.size := rfl
    by_cases hpl : p < x.cps.size
    · rw [if_pos (show ((p : Int)).toNat < x.cps.size from hpl)]
      refine wpAny_bind ?_
      show wpAny _ _ (mkStr ⟨x.cps.extract p x.cps.size⟩) _ _ _
      refine wpAny_mkStr ?_ (by show (x.cps.extract p x.cps.size).size ≤ _; rw [Array.size_extract, sizeLine_eq]; omega)
      refine wpAny_bind (push_piece hL (by simp at hlen; omega) fun h' hL' hk' => ?_)
      refine sub_fin hL' (strs_snoc hst _ _) ?_ fun z tok tk' hz => hQ z tok h' tk' ?_ hk'
      · rw [List.map_append, List.sum_append]
        have : (⟨x.cps.extract p x.cps.size⟩ : Str).length = x.cps.size - p := by show (x.cps.extract p x.cps.size).size = _; rw [Array.size_extract]; omega
        simp only [List.map_cons, List.map_nil, List.sum_cons, List.sum_nil, this]
        simp only [List.length_nil] at hsum
        omega
      · rw [hz, cat_append, outOf]
        congr 1
        simp only [cat, List.flatMap_cons, List.flatMap_nil, List.append_nil, Array.toList_extract]
        rw [List.extract_eq_take_drop, List.take_of_length_le (by simp)]
    · rw [if_neg (show ¬ ((p : Int)).toNat < x.cps.size from hpl)]
      refine sub_fin hL hst (by simp only [List.length_nil] at hsum; omega) fun z tok tk' hz => hQ z tok s.heap tk' ?_ fun _ _ _ e => e
      rw [hz, outOf, List.drop_of_length_le (by simpa using hpl), List.append_nil]
  | cons qe ms ih =>
    obtain ⟨q, e⟩ := qe
    intro p n s vs ys k hp hch hL hst hlen hsum hQ
    obtain ⟨hit, hpq, hqe, hes, hrest⟩ := hch
    have hxl : x.length = x.cps.size := rfl
    simp only [List.length_cons] at hlen hsum
    have hmul : (ms.length + 1) * y.length = ms.length * y.length + y.length := by rw [Nat.add_mul, Nat.one_mul]
    rw [hmul] at hsum
    have fin2 : ∀ (h2 : Heap) (tk2 : Nat) (vs2 : List Value) (ys2 : List Str) (k2 : Nat), h2.get? L = some { cls := .type "list", data := .seq vs2.toArray k2 } → StrsAre vs2 ys2 → vs2.length ≤ vs.length + 2 →
        (ys2.map (·.length)).sum = (ys.map (·.length)).sum + (q - p) + y.length → cat ys2 = cat ys ++ ((x.cps.toList.drop p).take (q - p) ++ y.cps.toList) → (∀ b o, b ≠ L → s.heap.get? b = some o → h2.get? b = some o) →
        LoopEnd prog w A Q E (.again (.builtin "re.Pattern.sub.loop" ⟨[.ref pa, .str x t, .str y u, rawInt 0, rawInt 0, rawInt (n + 1), rawInt (e : Nat), rawInt (e : Nat), .bool false, .ref L, .bool false], []⟩)) { s with heap := h2, toks := tk2 } := by
      intro h2 tk2 vs2 ys2 k2 hL2 hst2 hl2 hs2 hc2 hk2
      refine ⟨plainId_quiet (by decide +kernel) _, ih e (n + 1) { s with heap := h2, toks := tk2 } vs2 ys2 k2 (hp.but hL rfl hk2) hrest hL2 hst2 (by omega) (by omega) fun z tok h' tk' hz hk => hQ z tok h' tk' ?_ fun b o hb he => hk b o hb (hk2 b o hb he)⟩
      rw [hz, hc2, outOf]
      simp only [List.append_assoc]
    refine codeAny_builtin entry_loop ?_
    show wpAny _ _ _ (LoopEnd prog w A Q E) E s
    unfold Builtin.«re.Pattern.sub.loop»
    dsimp only
    refine wpAny_bind (whole_target hp ?_)
    dsimp only
    rw [if_pos (by decide)]
    refine wpAny_bind (wpAny_pure ?_)
    rw [if_neg (by simp)]
    refine wpAny_bind (run_hit (N := 2 ^ 40) hit (Nat.le_refl _) fun m' h1 h2 => ?_)
    dsimp only
    rw [h1, h2]
    have hb : (e == q) = false := beq_eq_false_iff_ne.mpr (by omega)
    rw [hb]
    by_cases hpl : p < q
    · rw [if_pos (show ((p : Int)).toNat < q from hpl)]
      refine wpAny_bind ?_
      show wpAny _ _ (mkStr ⟨x.cps.extract p q⟩) _ _ _
      refine wpAny_mkStr ?_ (by show (x.cps.extract p q).size ≤ _; rw [Array.size_extract, sizeLine_eq]; omega)
      refine wpAny_bind (push_piece hL (by omega) fun h' hL' hk' => ?_)
      rw [if_pos (by decide)]
      refine wpAny_bind (wpAny_pure ?_)
      rw [if_pos (by rfl)]
      refine wpAny_bind (push_piece hL' (by rw [List.length_append, List.length_singleton]; omega) fun h3 hL3 hk3 => ?_)
      refine wpAny_pure (fin2 h3 _ _ _ _ hL3 (strs_snoc (strs_snoc hst _ _) _ _) (by simp only [List.length_append, List.length_singleton]; omega) ?_ ?_ fun b o hb he => hk3 b o hb (hk' b o hb he))
      · have : (⟨x.cps.extract p q⟩ : Str).length = q - p := by show (x.cps.extract p q).size = _; rw [Array.size_extract]; omega
        simp only [List.map_append, List.sum_append, List.map_cons, List.map_nil, List.sum_cons, List.sum_nil, this]
        omega
      · rw [cat_append, cat_append]
        simp only [cat, List.flatMap_cons, List.flatMap_nil, List.append_nil, Array.toList_extract, List.append_assoc, List.extract_eq_take_drop]
    · rw [if_neg (show ¬ ((p : Int)).toNat < q from hpl)]
      rw [if_pos (by decide)]
      refine wpAny_bind (wpAny_pure ?_)
      rw [if_pos (by rfl)]
      refine wpAny_bind (push_piece hL (by omega) fun h3 hL3 hk3 => ?_)
      refine wpAny_pure (fin2 h3 _ _ _ _ hL3 (strs_snoc hst _ _) (by simp only [List.length_append, List.length_singleton]; omega) ?_ ?_ hk3)
      · simp only [List.map_append, List.sum_append, List.map_cons, List.map_nil, List.sum_cons, List.sum_nil]
        omega
      · rw [cat_append, show q - p = 0 by omega, List.take_zero]
        simp only [cat, List.flatMap_cons, List.flatMap_nil, List.append_nil, List.nil_append]
theorem slot_sub : Slot "re.Pattern" "sub" "re.Pattern.sub" :=
  .of (owner := "re.Pattern") (n := "sub") (by rw [typeLookup_type, builtinLookup_eq_fast]; kernel_rfl) (by decide +kernel) (by decide +kernel) (by decide +kernel)
    (by first | exact .inl (by decide +kernel) | exact .inr (by decide +kernel)) (by rw [isSubtype_type]; kernel_rfl)
theorem entry_sub : entryFor table "re.Pattern.sub" = some Builtin.«re.Pattern.sub» := entryFor_of_tree (by kernel_rfl)
theorem str_no_call : typeLookup (.type "str") "__call__" = pure none := by rw [typeLookup_type, builtinLookup_eq_fast]; kernel_rfl
theorem named_sub (a b : Value) : reNamed "re.Pattern.sub" "sub" ["repl", "string", "count"] 2 [a, b] [] = pure [some a, some b, none] := by rfl
theorem args_sub (a b c : Value) : argsOk "re.Pattern.sub" ⟨[a, b, c], []⟩ := by
  unfold argsOk; rfl
theorem re_getattribute : typeLookup (.type "re.Pattern") "__getattribute__" = pure (some (.builtin "object.__getattribute__")) := by rw [typeLookup_type, builtinLookup_eq_fast]; kernel_rfl
theorem canon_re_getattribute : (Manifest.canonical "object.__getattribute__" != "object.__getattribute__") = false := by decide +kernel
theorem re_getattr_none : typeLookup (.type "re.Pattern") "__getattr__" = pure none := by rw [typeLookup_type, builtinLookup_eq_fast]; kernel_rfl
theorem type_re_sub : typeOf (.builtin "re.Pattern.sub") = pure (.type "method_descriptor") := by show builtinType _ = _; rw [builtinType_eq_fast]; kernel_rfl
theorem getMethod_sub {l : Addr} {c : Array Nat} {pl : Sem Bool} {Q : Value × List Value → Shared → Prop} (hp : PatAt s.heap l c)
    (h : Q (.builtin "re.Pattern.sub", [.ref l]) s) : wpAny (model prog w) A (getMethod (.ref l) "sub" pl) Q E s := by
  obtain ⟨o, _, _, _, _, _, _, _, _, ho, hc, hd, _⟩ := hp
  have hT : s.TypeIs (.ref l) "re.Pattern" := ⟨o, ho, hc⟩
  unfold getMethod
  refine wpAny_bind (wpAny_specialOf hT re_getattribute ?_)
  show wpAny (model prog w) A (if (Manifest.canonical "object.__getattribute__" != "object.__getattribute__") = true then _ else _) Q E s
  rw [canon_re_getattribute, if_neg Bool.false_ne_true]
  refine wpAny_bind (wpAny_specialOf hT re_getattr_none ?_)
  refine wpAny_bind (wpAny_specialOf hT slot_sub.lookup ?_)
  refine wpAny_bind (wpAny_of_eq type_re_sub ?_)
  refine wpAny_bind (wpAny_load ho ?_)
  rw [hd]
  exact wpAny_bind (wpAny_rule (wpAny_pure h))
end
end Mine
end
section
open PySem PySem.W PyProof.Rows PySem.Calls PySem.Builtin PySem.Builtin.Re PySem.Sre
namespace Mine
section
variable {prog : Program} {w : World} {A : Around} {E : Value → Shared → Prop} {s : Shared}
theorem sub_call {pa : Addr} {c : Array Nat} {x y : Str} {t u : Tok} {ms : List (Nat × Nat)} {Q : Value → Shared → Prop} (hp : PatAt s.heap pa c) (hx : x.length ≤ 100000) (hy : y.length ≤ 10) (hy9 : y.cps.contains 92 = false) (hm : ms.length ≤ 1000) (hch : Chain c x.cps 0 ms)
    (hQ : ∀ z tok h' tk', z.cps.toList = outOf x.cps.toList y.cps.toList 0 ms → (∀ b o, s.heap.get? b = some o → h'.get? b = some o) → Q (.str z tok) { s with heap := h', toks := tk' }) :
    wpAny (model prog w) A (call (.builtin "re.Pattern.sub") [.ref pa, .str y u, .str x t]) Q E s := by
  have hT : s.TypeIs (.ref pa) "re.Pattern" := by
    obtain ⟨op, _, _, _, _, _, _, _, _, h1, h2, _⟩ := hp
    exact ⟨op, h1, h2⟩
  have hmy : ms.length * y.length ≤ 1000 * 10 := Nat.mul_le_mul hm hy
  refine wpAny_call (codeAny_call_builtin_at (plainId_quiet slot_sub.plain _) entry_sub (slot_sub.check _ _ _ _ _ _ _ _ hT (args_sub _ _ _) ?_))
  show wpAny _ _ _ (LoopEnd prog w A Q E) E s
  unfold Builtin.«re.Pattern.sub» reSubstitute
  dsimp only
  rw [named_sub]
  refine wpAny_bind (wpAny_pure ?_)
  dsimp only
  refine wpAny_bind (wpAny_pure ?_)
  refine wpAny_bind ?_
  refine wpAny_specialOf (T := "str") rfl str_no_call ?_
  rw [if_neg (by decide)]
  refine wpAny_bind ?_
  refine wpAny_pure ?_
  dsimp only
  rw [hy9]
  refine wpAny_bind (wpAny_pure ?_)
  rw [if_neg (by decide), if_pos (by rfl)]
  refine wpAny_bind (wpAny_pure ?_)
  refine wpAny_bind (wpAny_holding (whole_target hp ?_))
  dsimp only
  rw [if_neg (by decide)]
  refine wpAny_bind (wpAny_newList ?_ (by simp [sizeLine]))
  have up : ∀ b o, s.heap.get? b = some o → (s.heap.push { cls := .type "list", data := .seq ([] : List Value).toArray }).get? b = some o := fun b o e => Heap.get?_push_of_some _ e
  refine wpAny_pure ⟨plainId_quiet (by decide +kernel) _, ?_⟩
  refine sub_loop (n := 0) hx ms 0 _ [] [] 0 (hp.keeps up) hch (Heap.get?_push_size _ rfl) .nil (by simp only [List.length_nil]; omega) (by simp only [List.map_nil, List.sum_nil]; omega) fun z tok h' tk' hz hk => hQ z tok h' tk' (by simpa [cat] using hz) fun b o e => hk b o ?_ (up b o e)
  exact Nat.ne_of_lt (Heap.lt_size e)
end
end Mine
end
section
open PySem PySem.Sre
namespace Mine
def rowL (d m : Nat) : List Nat := List.replicate d 46 ++ List.replicate m 61
abbrev Row := Nat × Nat × List Nat
def oneRow (r : Row) : List Nat := rowL r.1 r.2.1 ++ r.2.2
def mailL (R : List Row) : List Nat := R.flatMap oneRow
def RowOk (r : Row) : Prop := 1 ≤ r.1 ∧ (r.2.2 = [10] ∨ r.2.2 = [13] ∨ r.2.2 = [13, 10])
theorem mailL_cons (r : Row) (R : List Row) : mailL (r :: R) = oneRow r ++ mailL R := rfl
theorem rowL_len (d m : Nat) : (rowL d m).length = d + m := by simp [rowL]
theorem getD_drop {t : Array Nat} {off : Nat} {l : List Nat} (h : t.toList.drop off = l) (j : Nat) : t.getD (off + j) 0 = (l[j]?).getD 0 := by
  rw [← h, List.getElem?_drop]
  simp
theorem size_drop {t : Array Nat} {off : Nat} {l : List Nat} (h : t.toList.drop off = l) : l.length = t.size - off := by rw [← h]; simp
theorem drop_more {t : Array Nat} {off : Nat} {a b : List Nat} (h : t.toList.drop off = a ++ b) : t.toList.drop (off + a.length) = b := by rw [← List.drop_drop, h]; simp
theorem rowL_get (d m j : Nat) (hj : j < d + m) (r : List Nat) : ((rowL d m ++ r)[j]?).getD 0 = if j < d then 46 else 61 := by
  rw [List.getElem?_append_left (by rw [rowL_len]; exact hj)]
  unfold rowL
  by_cases h : j < d
  · rw [if_pos h, List.getElem?_append_left (by simpa using h), List.getElem?_replicate, if_pos h]; rfl
  · rw [if_neg h, List.getElem?_append_right (by simpa using h), List.getElem?_replicate, List.length_replicate, if_pos (by omega)]; rfl
theorem rowL_end (d m j : Nat) (r : List Nat) : ((rowL d m ++ r)[d + m + j]?) = r[j]? := by
  rw [List.getElem?_append_right (by rw [rowL_len]; omega), rowL_len]
  congr 1; omega
def ms2 : Nat → List Row → List (Nat × Nat)
  | _, [] => []
  | off, r :: R => (off + (r.1 + r.2.1), off + (r.1 + r.2.1) + r.2.2.length) :: ms2 (off + (oneRow r).length) R
theorem oneRow_len (r : Row) : (oneRow r).length = r.1 + r.2.1 + r.2.2.length := by simp [oneRow, rowL_len]
theorem chain2 (t : Array Nat) : ∀ (R : List Row) (off : Nat), (∀ r ∈ R, RowOk r) → t.toList.drop off = mailL R → off ≤ t.size → Chain c2 t off (ms2 off R)
  | [], off, _, ht, ho => by
    have hl := size_drop ht
    exact (search2_miss t off ho fun i hi hg => by have := hg.1; simp [mailL] at hl; omega).le (by decide)
  | r :: R, off, hR, ht, ho => by
    obtain ⟨d, m, e⟩ := r
    have hr : RowOk (d, m, e) := hR _ (.head _)
    have hl := size_drop ht
    rw [mailL_cons, List.length_append, oneRow_len] at hl
    have he : 1 ≤ e.length ∧ e.length ≤ 2 := by rcases hr.2 with h | h | h <;> (dsimp only at h; subst h; simp)
    have ht2 : t.toList.drop off = rowL d m ++ (e ++ mailL R) := by rw [ht, mailL_cons]; simp [oneRow, List.append_assoc]
    have hdrop : t.toList.drop (off + (oneRow (d, m, e)).length) = mailL R := drop_more (by rw [ht, mailL_cons])
    dsimp only at hl
    have g0 : t.getD (off + (d + m)) 0 = ((e ++ mailL R)[0]?).getD 0 := by
      rw [getD_drop ht2 (d + m)]; have := rowL_end d m 0 (e ++ mailL R); rw [Nat.add_zero] at this; rw [this]
    have g1 : t.getD (off + (d + m) + 1) 0 = ((e ++ mailL R)[1]?).getD 0 := by
      rw [Nat.add_assoc, getD_drop ht2 (d + m + 1), rowL_end d m 1]
    refine ⟨(search2_hit t off (off + (d + m)) _ (by omega) (fun i h1 h2 hg => ?_) (by omega) ?_).le (by decide), by omega, by dsimp only; omega, by dsimp only; omega, ?_⟩
    · have := getD_drop ht2 (i - off)
      rw [show off + (i - off) = i by omega, rowL_get d m _ (by omega)] at this
      have hg2 := hg.2
      rw [this] at hg2
      split at hg2 <;> omega
    · rcases hr.2 with h | h | h <;> (dsimp only at h; subst h)
      · exact .inl ⟨by rw [g0]; rfl, rfl⟩
      · refine .inr (.inr ⟨by rw [g0]; rfl, ?_, rfl⟩)
        rcases R with _ | ⟨r2, R⟩
        · left; simp [mailL] at hl ⊢; omega
        · right
          rw [g1]
          obtain ⟨d2, m2, e2⟩ := r2
          have h2 : RowOk (d2, m2, e2) := hR _ (.tail _ (.head _))
          have hd2 : 1 ≤ d2 := h2.1
          have : ([13] ++ mailL ((d2, m2, e2) :: R))[1]? = some 46 := by
            obtain ⟨k, rfl⟩ : ∃ k, d2 = k + 1 := ⟨d2 - 1, by omega⟩
            rw [mailL_cons]; simp [oneRow, rowL, List.replicate_succ]
          rw [this]; decide
      · exact .inr (.inl ⟨by rw [g0]; rfl, by simp at hl; omega, by rw [g1]; rfl, rfl⟩)
    · have ih := chain2 t R (off + (oneRow (d, m, e)).length) (fun r hr => hR r (.tail _ hr)) hdrop (by rw [oneRow_len]; dsimp only; omega)
      have e1 : off + (d + m) + e.length = off + (oneRow (d, m, e)).length := by rw [oneRow_len]; dsimp only; omega
      show Chain c2 t (off + (d + m) + e.length) _
      rw [e1]; exact ih
def crlfRow (r : Row) : Row := (r.1, r.2.1, [13, 10])
theorem out2 (t : Array Nat) : ∀ (R : List Row) (off : Nat), t.toList.drop off = mailL R → outOf t.toList [13, 10] off (ms2 off R) = mailL (R.map crlfRow)
  | [], off, ht => ht
  | r :: R, off, ht => by
    have hdrop : t.toList.drop (off + (oneRow r).length) = mailL R := drop_more (by rw [ht, mailL_cons])
    have ih := out2 t R _ hdrop
    have e1 : off + (r.1 + r.2.1) + r.2.2.length = off + (oneRow r).length := by rw [oneRow_len]; omega
    show (t.toList.drop off).take (off + (r.1 + r.2.1) - off) ++ [13, 10] ++ outOf t.toList [13, 10] (off + (r.1 + r.2.1) + r.2.2.length) _ = _
    rw [e1, ih, ht, mailL_cons, List.map_cons, mailL_cons, show off + (r.1 + r.2.1) - off = (rowL r.1 r.2.1).length by rw [rowL_len]; omega]
    simp [oneRow, crlfRow, List.append_assoc]
def ms1 : Nat → List Row → List (Nat × Nat)
  | _, [] => []
  | off, r :: R => (off, off + 1) :: ms1 (off + (oneRow r).length) R
def Row1 (r : Row) : Prop := 1 ≤ r.1 ∧ r.2.2 = [13, 10]
def bump (r : Row) : Row := (r.1 + 1, r.2.1, r.2.2)
theorem ms1_len : ∀ (R : List Row) (off : Nat), (ms1 off R).length = R.length
  | [], _ => rfl
  | r :: R, off => by show (ms1 _ R).length + 1 = _; rw [ms1_len R]; rfl
theorem ms2_len : ∀ (R : List Row) (off : Nat), (ms2 off R).length = R.length
  | [], _ => rfl
  | r :: R, off => by show (ms2 _ R).length + 1 = _; rw [ms2_len R]; rfl
theorem chain1 (t : Array Nat) (hz : t.size ≤ 100000) : ∀ (R : List Row) (p off : Nat), (∀ r ∈ R, Row1 r) → t.toList.drop off = mailL R → off ≤ t.size → p ≤ off → (off = 0 ∨ t.getD (off - 1) 0 = 10) → (∀ i, p ≤ i → i < off → ¬ Good1 t i) → Chain c1 t p (ms1 off R)
  | [], p, off, _, ht, ho, hp, _, hn => by
    have hl := size_drop ht
    refine (search1_miss t p (by omega) fun i hi hi2 hg => ?_).le (by omega)
    by_cases h : i < off
    · exact hn i hi h hg
    · have := hg.2.1; simp [mailL] at hl; omega
  | r :: R, p, off, hR, ht, ho, hp, hs, hn => by
    obtain ⟨d, m, e⟩ := r
    have hr : Row1 (d, m, e) := hR _ (.head _)
    have hd1 : 1 ≤ d := hr.1
    have he : e = [13, 10] := hr.2
    subst he
    have hl := size_drop ht
    rw [mailL_cons, List.length_append, oneRow_len] at hl
    have ht2 : t.toList.drop off = rowL d m ++ ([13, 10] ++ mailL R) := by rw [ht, mailL_cons]; simp [oneRow, List.append_assoc]
    have hdrop : t.toList.drop (off + (oneRow (d, m, [13, 10])).length) = mailL R := drop_more (by rw [ht, mailL_cons])
    have hlen : (oneRow (d, m, [13, 10])).length = d + m + 2 := oneRow_len _
    dsimp only [List.length_cons, List.length_nil] at hl
    have hg0 : t.getD off 0 = 46 := by
      have := getD_drop ht2 0
      rw [Nat.add_zero, rowL_get d m 0 (by omega), if_pos (by omega)] at this
      exact this
    refine ⟨(search1_hit t p off hp hn ⟨hs, by omega, hg0⟩).le (by omega), hp, by omega, by omega, ?_⟩
    have hin : ∀ j, j < d + m → t.getD (off + j) 0 ≠ 10 := fun j hj => by
      rw [getD_drop ht2 j, rowL_get d m j hj]; split <;> decide
    have h13 : t.getD (off + (d + m)) 0 = 13 := by
      rw [getD_drop ht2 (d + m)]; have := rowL_end d m 0 ([13, 10] ++ mailL R); rw [Nat.add_zero] at this; rw [this]; rfl
    have h10 : t.getD (off + (d + m) + 1) 0 = 10 := by
      rw [Nat.add_assoc, getD_drop ht2 (d + m + 1), rowL_end d m 1]; rfl
    refine chain1 t hz R (off + 1) _ (fun r hr => hR r (.tail _ hr)) hdrop (by omega) (by omega) (.inr ?_) fun i h1 h2 hg => ?_
    · rw [hlen, show off + (d + m + 2) - 1 = off + (d + m) + 1 by omega]; exact h10
    · rw [hlen] at h2
      rcases hg.1 with h0 | h0
      · omega
      · by_cases hj : i - 1 - off < d + m
        · have := hin _ hj
          rw [show off + (i - 1 - off) = i - 1 by omega] at this
          exact this h0
        · rw [show i - 1 = off + (d + m) by omega, h13] at h0
          cases h0
theorem out1 (t : Array Nat) : ∀ (R : List Row) (p off : Nat), (∀ r ∈ R, Row1 r) → t.toList.drop off = mailL R → off ≤ t.size → p ≤ off → outOf t.toList [46, 46] p (ms1 off R) = (t.toList.drop p).take (off - p) ++ mailL (R.map bump)
  | [], p, off, _, ht, ho, hp => by
    have hl := size_drop ht
    simp [mailL] at hl
    show t.toList.drop p = (t.toList.drop p).take (off - p) ++ []
    rw [List.append_nil, List.take_of_length_le (by simp; omega)]
  | r :: R, p, off, hR, ht, ho, hp => by
    obtain ⟨d, m, e⟩ := r
    have hr : Row1 (d, m, e) := hR _ (.head _)
    have hd1 : 1 ≤ d := hr.1
    have hl := size_drop ht
    rw [mailL_cons, List.length_append] at hl
    have hlen := oneRow_len (d, m, e)
    dsimp only at hlen
    have hdrop : t.toList.drop (off + (oneRow (d, m, e)).length) = mailL R := drop_more (by rw [ht, mailL_cons])
    have ih := out1 t R (off + 1) _ (fun r hr => hR r (.tail _ hr)) hdrop (by omega) (by omega)
    show (t.toList.drop p).take (off - p) ++ [46, 46] ++ outOf t.toList [46, 46] (off + 1) (ms1 _ R) = _
    rw [ih, List.append_assoc]
    congr 1
    obtain ⟨k, rfl⟩ : ∃ k, d = k + 1 := ⟨d - 1, by omega⟩
    have h1 : t.toList.drop (off + 1) = rowL k m ++ e ++ mailL R := by
      have : t.toList.drop off = [46] ++ (rowL k m ++ e ++ mailL R) := by rw [ht, mailL_cons]; simp [oneRow, rowL, List.replicate_succ, List.append_assoc]
      exact drop_more this
    rw [h1, List.map_cons, mailL_cons, show off + (oneRow (k + 1, m, e)).length - (off + 1) = (rowL k m ++ e).length by rw [List.length_append, rowL_len]; omega, List.take_left]
    simp [oneRow, bump, rowL, List.replicate_succ, List.append_assoc]
end Mine
end
section
open PySem PySem.W PyProof.Rows PySem.Calls PySem.Spec PyProof.Rows.LCg
namespace Mine
section
variable {prog : Program} {w : World} {A : Around} {E : Value → Shared → Prop} {s : Shared} {env : Env}
/-- one turn of an enumerate over a list, up to the two names' store -/
theorem enum_step {e I c : Addr} {items : Array Value} {i : Nat} {old v : Value} {mx : Str → Option Value} {xi xv : Str} {pi pv pt : PySem.Pos} {x1 : Nat} {N : Shared → Prop} {Q : Unit → Shared → Prop}
    (hh : A.handled = none) (hxi : env.kindOf xi = some .local) (hxv : env.kindOf xv = some .local) (hp : (env.scope.kind == .class || (env.scope.kind == .module && env.locals != env.globals)) = false)
    (he : IsEnum s.heap e I i old) (hit : s.heap.IsListIter I c i) (hc : s.heap.IsList c items) (hx : items[i]? = some v) (hn : s.heap.Ns env.locals mx) (hei : e ≠ I) (heL : e ≠ env.locals) (hiL : I ≠ env.locals)
    (hQ : ∀ h' tk t, IsEnum h' e I ((i + 1 : Nat) : Int) v → h'.IsListIter I c (i + 1) → h'.Ns env.locals (fun y => if y = xv then some v else if y = xi then some (.int i t) else mx y) → s.heap.objs.size ≤ h'.objs.size →
      (∀ b o, b ≠ e → b ≠ I → b ≠ env.locals → s.heap.get? b = some o → h'.get? b = some o) → Q () { s with heap := h', toks := tk }) :
    wpAny (model prog w) A (pyNext (.ref e)) (fun r s₁ => match r with
      | none => N s₁
      | some v' => wpAny (model prog w) A (letOwnedTupleGo (.Tuple [.Name xi pi, .Name xv pv] x1 pt) (.ref e) v') (fun _ s₁' => wpAny (model prog w) A (assign (.Tuple [.Name xi pi, .Name xv pv] x1 pt) env v') Q E s₁') E s₁) E s := by
  have heH : e < s.heap.objs.size := Heap.lt_size he
  have hLH : env.locals < s.heap.objs.size := hn.lt
  refine wpAny_pyNext_enum_item he hit hc hx hei fun h₁ heo hit₁ ht₁ hz₁ hk₁ => ?_
  refine wpAny_letOwnedTupleGo_enum heo fun h₂ he₂ hs₂ => ?_
  have hs₂' : Heap.SameBut e h₁ h₂ := hs₂
  have ht₂ : h₂.IsTuple s.heap.objs.size #[.int i s.toks, v] := ⟨_, (hs₂'.2 _ (Nat.ne_of_gt heH)).trans ht₁, rfl, _, rfl⟩
  have hz₂ : h₂.objs.size = s.heap.objs.size + 1 := hs₂'.1.trans hz₁
  refine wpAny_assign_Tuple hh ht₂ rfl rfl fun h₃ hx₃ => ?_
  have hx₃' : Heap.ExtBut h₂.objs.size h₂ h₃ := hx₃
  have k₂ : ∀ b o, b ≠ e → b ≠ I → s.heap.get? b = some o → h₂.get? b = some o := fun b o h1 h2 q => (hs₂'.2 b h1).trans (hk₁ b o h1 h2 q)
  have old₃ : ∀ b o, h₂.get? b = some o → h₃.get? b = some o := fun b o q => hx₃' b o (Nat.ne_of_lt (Heap.lt_size q)) q
  have hn₃ : h₃.Ns env.locals mx := hn.at fun o q => old₃ _ o (k₂ _ o (Ne.symm heL) (Ne.symm hiL) q)
  show wpAny (model prog w) A (do holding [v] (assign (.Name xi pi) env (.int i s.toks)); do holding [] (assign (.Name xv pv) env v); pure ()) _ _ _
  refine wpAny_bind (wpAny_holding (wpAny_assign_Name (wpAny_storeName_local hxi hn₃ (fun h₄ hn₄ hs₄ => ?_) hp)))
  have hs₄' : Heap.SameBut env.locals h₃ h₄ := hs₄
  refine wpAny_bind (wpAny_holding (wpAny_assign_Name (wpAny_storeName_local hxv hn₄ (fun h₅ hn₅ hs₅ => wpAny_pure ?_) hp)))
  have hs₅' : Heap.SameBut env.locals h₄ h₅ := hs₅
  have up : ∀ b o, b ≠ env.locals → h₂.get? b = some o → h₅.get? b = some o := fun b o hb q => hs₅'.extBut b o hb (hs₄'.extBut b o hb (old₃ b o q))
  obtain ⟨oI, hoI, hI2⟩ := hit₁
  refine hQ h₅ _ _ ?_ ⟨oI, up I oI hiL ((hs₂'.2 I (Ne.symm hei)).trans hoI), hI2⟩ hn₅ ?_ (fun b o h1 h2 h3 q => up b o h3 (k₂ b o h1 h2 q))
  · have : ((i + 1 : Nat) : Int) = (i : Int) + 1 := by push_cast; rfl
    rw [this]; exact up e _ heL he₂
  · have q2 : s.heap.objs.size < h₂.objs.size := by omega
    have := Heap.lt_size (up s.heap.objs.size _ (Nat.ne_of_gt hLH) ((hs₂'.2 _ (Nat.ne_of_gt heH)).trans ht₁))
    exact Nat.le_of_lt this
/-- the call of enumerate on a list: two objects more on the ledger -/
def enumO (I : Addr) : Obj := { cls := .type "enumerate", dict := none, data := .fields #[.none, .bool false, .ref I, rawInt 0, .none, .none], slots := #[] }
theorem enum_call {h₀ : Heap} {L c : Addr} {m : Str → Option Value} {news : List (Addr × Obj)} {items : Array Value} {Q : Value → Shared → Prop} (F : Fr h₀ L s.heap m) (N : News h₀ L s.heap news) (hc : s.heap.IsList c items)
    (h : ∀ h' e I oI, Fr h₀ L h' m → News h₀ L h' ((e, enumO I) :: (I, oI) :: news) → h'.IsListIter I c 0 → L < I → I < e → Off1 e news → Off1 I news → Q (.ref e) { s with heap := h' }) :
    wpAny (model prog w) A (call (.type "enumerate") [.ref c]) Q E s := by
  refine call_enumerate_list hc fun h' he hit hsz hk => ?_
  have hL : L < s.heap.objs.size := F.ns.lt
  have fresh : ∀ a, s.heap.objs.size ≤ a → h₀.get? a = none := fun a ha => by
    cases q : h₀.get? a with
    | none => rfl
    | some o => exact absurd (Heap.lt_size (F.keep _ _ q)) (Nat.not_lt.mpr ha)
  have offs : ∀ a, s.heap.objs.size ≤ a → Off1 a news := fun a ha => by
    have : ∀ l : List (Addr × Obj), (∀ p ∈ l, p.1 < s.heap.objs.size) → Off1 a l := by
      intro l
      induction l with
      | nil => intro _; trivial
      | cons p l ih => intro q; exact ⟨Nat.ne_of_lt (Nat.lt_of_lt_of_le (q p (.head _)) ha), ih fun r hr => q r (.tail _ hr)⟩
    exact this news fun p hp => Heap.lt_size (N p hp).1
  obtain ⟨oI, hoI, hI2⟩ := hit
  refine h h' _ _ oI (F.keeps hk) (fun p hp => ?_) ⟨oI, hoI, hI2⟩ hL (Nat.lt_succ_self _) (offs _ (Nat.le_succ _)) (offs _ (Nat.le_refl _))
  rcases List.mem_cons.mp hp with rfl | hp
  · exact ⟨he, Nat.ne_of_gt (Nat.lt_succ_of_lt hL), fresh _ (Nat.le_succ _)⟩
  · rcases List.mem_cons.mp hp with rfl | hp
    · exact ⟨hoI, Nat.ne_of_gt hL, fresh _ (Nat.le_refl _)⟩
    · exact ⟨hk _ _ (N p hp).1, (N p hp).2⟩
/-- how a turn ends, two objects of the iterator kept -/
def TurnEnd2 (h₀ : Heap) (L : Addr) (s : Shared) (e : Addr) (oE : Obj) (I : Addr) (oI : Obj) (J : (Str → Option Value) → List (Addr × Obj) → Prop) (f : Flow) (s₃ : Shared) : Prop :=
  f = .next ∧ ∃ h' tk m₂ nw₂, s₃ = { s with heap := h', toks := tk } ∧ Fr h₀ L h' m₂ ∧ News h₀ L h' ((e, oE) :: (I, oI) :: nw₂) ∧ Off1 e nw₂ ∧ Off1 I nw₂ ∧ J m₂ nw₂
theorem TurnEnd2.intro {h₀ : Heap} {L e I : Addr} {oE oI : Obj} {J : (Str → Option Value) → List (Addr × Obj) → Prop} {h' : Heap} {tk : Nat} {m₂ : Str → Option Value} {nw₂ : List (Addr × Obj)} (F : Fr h₀ L h' m₂) (N : News h₀ L h' ((e, oE) :: (I, oI) :: nw₂)) (o : Off1 e nw₂) (o2 : Off1 I nw₂) (j : J m₂ nw₂) :
    TurnEnd2 h₀ L s e oE I oI J .next { s with heap := h', toks := tk } := ⟨rfl, h', tk, m₂, nw₂, rfl, F, N, o, o2, j⟩
theorem For_enum {h₀ : Heap} {L c : Addr} {m : Str → Option Value} {news : List (Addr × Obj)} {items : Array Value} {xi xv : Str} {pi pv pt pos : PySem.Pos} {x1 : Nat} {iter : Expr} {body : List Stmt} {Q : Flow → Shared → Prop} (hL : env.locals = L) (J : Nat → (Str → Option Value) → List (Addr × Obj) → Prop)
    (hxi : env.kindOf xi = some .local) (hxv : env.kindOf xv = some .local) (hp : (env.scope.kind == .class || (env.scope.kind == .module && env.locals != env.globals)) = false) (hh : A.handled = none) (hc : h₀.IsList c items) (h0 : J 0 m news)
    (he : wpAny (model prog w) A (eval iter env) (fun xv s₁ => Stp (∃ tk h₁ e I oI, xv = .ref e ∧ s₁ = { s with heap := h₁, toks := tk } ∧ Fr h₀ L h₁ m ∧ News h₀ L h₁ ((e, enumO I) :: (I, oI) :: news) ∧ h₁.IsListIter I c 0 ∧ L < I ∧ I < e ∧ Off1 e news ∧ Off1 I news)) E s)
    (turn : ∀ i v t m₁ nw h₁ tk₁ e oE I oI, items[i]? = some v → J i m₁ nw → Off1 e nw → Off1 I nw → L < I → I < e → Fr h₀ L h₁ (fun y => if y = xv then some v else if y = xi then some (.int i t) else m₁ y) → News h₀ L h₁ ((e, oE) :: (I, oI) :: nw) →
      wpAny (model prog w) A (execs body env) (TurnEnd2 h₀ L s e oE I oI (J (i + 1))) E { s with heap := h₁, toks := tk₁ })
    (done : ∀ h' tk m' nw, J items.size m' nw → Fr h₀ L h' m' → News h₀ L h' nw → Q .next { s with heap := h', toks := tk })
    (hs : ∀ x, foldedSetIterable iter env x = pure x := by intro _; rfl)
    (hE : PassesOwn (model prog w) A env E := by passes_own) :
    wpAny (model prog w) A (exec (.For (.Tuple [.Name xi pi, .Name xv pv] x1 pt) iter body [] pos) env) Q E s := by
  subst hL
  refine wpAny_For (wpAny_mono he (fun xv' s₁ hh1 => ?_) fun _ _ e => e) hs
  obtain ⟨tk, h₁, e, I, oI, rfl, rfl, F, N, hit, hLI, hIe, oe, oi⟩ := Stp.out hh1
  clear hh1
  refine wpAny_pyIter_enum (N _ (.head _)).1 ?_
  have he0 : h₀.get? e = none := (N _ (.head _)).2.2
  have hI0 : h₀.get? I = none := (N _ (.tail _ (.head _))).2.2
  refine codeAny_forLoop_any (R := fun r s' => match r with | .ok f => Q f s' | .error e => cameBackBy (model prog w) A env E e s')
    (fun k s' => ∃ h' tk m' nw' i old, s' = { s with heap := h', toks := tk } ∧ IsEnum h' e I ((i : Nat) : Int) old ∧ h'.IsListIter I c i ∧ Fr h₀ env.locals h' m' ∧ News h₀ env.locals h' nw' ∧ Off1 e nw' ∧ Off1 I nw' ∧ J i m' nw' ∧ i ≤ items.size ∧ k = items.size + 1 - i) ?_ (items.size + 1)
    ⟨h₁, tk, m, news, 0, .none, rfl, (N _ (.head _)).1, hit, F, fun p hp => N p (.tail _ (.tail _ hp)), oe, oi, h0, Nat.zero_le _, rfl⟩
  rintro k s' ⟨h', tk', m', nw', i, old, rfl, hen, hit', F', N', oe', oi', hJ, hi, rfl⟩
  have hcl' : h'.IsList c items := hc.at fun o q => F'.keep _ _ q
  by_cases hin : i < items.size
  · refine enum_step hh hxi hxv hp hen hit' hcl' (v := items[i]) (Array.getElem?_eq_getElem hin) F'.ns (Nat.ne_of_gt hIe) (Nat.ne_of_gt (Nat.lt_trans hLI hIe)) (Nat.ne_of_gt hLI) fun h2 tk2 t2 hen2 hit2 hn2 hsz hk2 => ?_
    have old2 : ∀ b o, h₀.get? b = some o → h2.get? b = some o := fun b o q => hk2 b o (fun r => by rw [r, he0] at q; cases q) (fun r => by rw [r, hI0] at q; cases q) (Nat.ne_of_lt (Nat.lt_of_lt_of_le (Heap.lt_size q) F'.above)) (F'.keep b o q)
    have F2 : Fr h₀ env.locals h2 _ := ⟨hn2, old2, F'.above⟩
    obtain ⟨oI2, hoI2, hI2⟩ := id hit2
    have N2 : News h₀ env.locals h2 ((e, _) :: (I, oI2) :: nw') := fun p hp => by
      rcases List.mem_cons.mp hp with rfl | hp
      · exact ⟨hen2, Nat.ne_of_gt (Nat.lt_trans hLI hIe), he0⟩
      · rcases List.mem_cons.mp hp with rfl | hp
        · exact ⟨hoI2, Nat.ne_of_gt hLI, hI0⟩
        · exact ⟨hk2 _ _ (off1_ne oe' p hp) (off1_ne oi' p hp) (N' p hp).2.1 (N' p hp).1, (N' p hp).2⟩
    refine wpAny_passesOwn hE (wpAny_mono (turn i items[i] t2 m' nw' h2 tk2 e _ I oI2 (Array.getElem?_eq_getElem hin) hJ oe' oi' hLI hIe F2 N2) (fun f s3 h3' => ?_) fun _ _ q => q)
    obtain ⟨rfl, h4, tk4, m4, nw4, rfl, F4, N4, o4, o5, J4⟩ := h3'
    exact ⟨items.size + 1 - (i + 1), by omega, h4, tk4, m4, nw4, i + 1, _, rfl, (N4 _ (.head _)).1, ⟨oI2, (N4 _ (.tail _ (.head _))).1, hI2⟩, F4, fun p hp => N4 p (.tail _ (.tail _ hp)), o4, o5, J4, hin, rfl⟩
  · have hie : i = items.size := by omega
    subst hie
    refine wpAny_passesOwn hE (wpAny_pyNext_enum_end hh hen hit' hcl' (by simp) fun h2 he2 => wpAny_execs_nil ?_)
    have keepN : ∀ p ∈ nw', h2.get? p.1 = some p.2 := fun p hp => he2 _ _ (off1_ne oi' p hp) (N' p hp).1
    exact done h2 tk' m' nw' hJ ⟨F'.ns.at' fun o q => he2 _ o (Nat.ne_of_lt hLI) q, fun b o q => he2 b o (fun r => by rw [r, hI0] at q; cases q) (F'.keep b o q), F'.above⟩ fun p hp => ⟨keepN p hp, (N' p hp).2⟩
end
end Mine
end
section
open PySem
namespace Mine
theorem str_app (a b : Str) : (a ++ b).cps.toList = a.cps.toList ++ b.cps.toList := by
  show (a.cps ++ b.cps).toList = _
  simp
theorem fold_rep (x : Array Nat) (c : Nat) (hx : x.toList = [c]) : ∀ (n : Nat) (acc : Array Nat), (List.foldl (fun x1 x2 => x1 ++ x2) acc (List.replicate n x)).toList = acc.toList ++ List.replicate n c
  | 0, acc => by simp
  | n + 1, acc => by
    rw [List.replicate_succ, List.foldl_cons, fold_rep x c hx n, Array.toList_append, hx, List.replicate_succ, List.append_assoc]; rfl
theorem mul_one_sign (x : Str) (c : Nat) (hx : x.cps.toList = [c]) (S : Int) (hS : 0 ≤ S) : (Txt.mul x S).cps.toList = List.replicate S.toNat c := by
  unfold Txt.mul
  by_cases h1 : S < 1
  · rw [if_pos h1, show S.toNat = 0 by omega]; rfl
  · rw [if_neg h1]
    by_cases h2 : S = 1
    · subst h2
      rw [if_pos (by simp), hx]; rfl
    · have hl : x.length = 1 := by
        have : x.cps.toList.length = 1 := by rw [hx]; rfl
        rw [Array.length_toList] at this; exact this
      rw [if_neg (by simp [h2, hl])]
      show (List.foldl (fun x1 x2 => x1 ++ x2) #[] (List.replicate S.toNat x.cps)).toList = _
      rw [fold_rep x.cps c hx]; rfl
theorem mailL_append (a b : List Row) : mailL (a ++ b) = mailL a ++ mailL b := by simp [mailL]
theorem mail_turn (z E : Str) (R : List Row) (S : Int) (n : Nat) (hz : z.cps.toList = mailL R) (hS : 0 ≤ S) :
    (z ++ Str.ofString "." ++ Txt.mul (Str.ofString ".") S ++ Txt.mul (Str.ofString "=") (n : Int) ++ E).cps.toList = mailL (R ++ [(1 + S.toNat, n, E.cps.toList)]) := by
  rw [str_app, str_app, str_app, str_app, mul_one_sign _ 46 (by decide) S hS, mul_one_sign _ 61 (by decide) _ (Int.natCast_nonneg n), hz, mailL_append, mailL_cons]
  have : (Str.ofString ".").cps.toList = [46] := by decide
  rw [this]
  rw [Nat.add_comm 1 S.toNat]
  simp [mailL, oneRow, rowL, List.replicate_succ, List.append_assoc]
end Mine
end
section
open PySem PySem.W PyProof.Rows PySem.Calls PyProof.Rows.LCg
namespace Mine
def ListsAre (h : Heap) : List Value → List (List Int) → Prop
  | [], [] => True
  | v :: vs, ns :: nss => (∃ a ws, v = .ref a ∧ h.IsList a ws.toArray ∧ IntsAre ws ns) ∧ ListsAre h vs nss
  | _, _ => False
theorem listsAre_get {h : Heap} : ∀ {vs : List Value} {nss : List (List Int)}, ListsAre h vs nss → ∀ (i : Nat) (v : Value), vs[i]? = some v → ∃ ns a ws, nss[i]? = some ns ∧ v = .ref a ∧ h.IsList a ws.toArray ∧ IntsAre ws ns
  | [], [], _, i, v, e => by simp at e
  | v :: vs, ns :: nss, x, 0, u, e => by
    obtain ⟨⟨a, ws, h1, h2⟩, _⟩ := x
    have : v = u := Option.some.inj e
    exact ⟨ns, a, ws, rfl, this ▸ h1, h2⟩
  | _ :: vs, _ :: nss, x, i + 1, u, e => by
    obtain ⟨ns, a, ws, h1, h2⟩ := listsAre_get x.2 i u e
    exact ⟨ns, a, ws, h1, h2⟩
  | [], _ :: _, x, _, _, _ => x.elim
  | _ :: _, [], x, _, _, _ => x.elim
theorem listsAre_len {h : Heap} : ∀ {vs : List Value} {nss : List (List Int)}, ListsAre h vs nss → vs.length = nss.length
  | [], [], _ => rfl
  | _ :: vs, _ :: nss, x => by rw [List.length_cons, List.length_cons, listsAre_len x.2]
  | [], _ :: _, x => x.elim
  | _ :: _, [], x => x.elim
theorem ListsAre.snoc {h : Heap} {a : Addr} {ws : List Value} {ns : List Int} (ha : h.IsList a ws.toArray) (hw : IntsAre ws ns) : ∀ {vs : List Value} {nss : List (List Int)}, ListsAre h vs nss → ListsAre h (vs ++ [.ref a]) (nss ++ [ns])
  | [], [], _ => ⟨⟨a, ws, rfl, ha, hw⟩, trivial⟩
  | _ :: _, _ :: _, x => ⟨x.1, ListsAre.snoc ha hw x.2⟩
  | [], _ :: _, x => x.elim
  | _ :: _, [], x => x.elim
inductive Inn : List (Addr × Obj) → List Value → List (List Int) → Prop
  | nil : Inn [] [] []
  | snoc {inner refs nss D ys ns} : Inn inner refs nss → IntsAre ys ns → Inn ((D, LCg.lst ys) :: inner) (refs ++ [.ref D]) (nss ++ [ns])
theorem Inn.lists {h : Heap} {inner : List (Addr × Obj)} {refs : List Value} {nss : List (List Int)} (x : Inn inner refs nss) : (∀ p ∈ inner, h.get? p.1 = some p.2) → ListsAre h refs nss := by
  induction x with
  | nil => intro _; trivial
  | snoc x hi ih => intro hn; exact ListsAre.snoc ⟨_, hn _ (.head _), rfl, _, rfl⟩ hi (ih fun p hp => hn p (.tail _ hp))
theorem Inn.len {inner : List (Addr × Obj)} {refs : List Value} {nss : List (List Int)} (x : Inn inner refs nss) : refs.length = nss.length := by
  induction x with
  | nil => rfl
  | snoc x hi ih => rw [List.length_append, List.length_append, ih]; rfl
end Mine
end
section
open PySem PySem.W PyProof.Rows PySem.Calls PySem.Spec PyProof.Rows.LCg
namespace Mine
section
variable {prog : Program} {w : World} {A : Around} {E : Value → Shared → Prop} {s : Shared} {env : Env}
/-- a comprehension's loop, a tuple of targets, one test -/
theorem compLoop_pairT {elt ct iter : Expr} {elts : List Expr} {x1 : Nat} {tp : PySem.Pos} {scope : Scope} {pos : PySem.Pos} {it acc : Value} {cenv : Env} {R : Result → Shared → Prop} (I : Nat → Shared → Prop)
    (turn : ∀ n s, I n s → wpAny (model prog w) A (pyNext it) (fun r s₁ => match r with
      | none => R (.ok .next) s₁
      | some v => wpAny (model prog w) A (letOwnedTupleGo (.Tuple elts x1 tp) it v) (fun _ s₁' => wpAny (model prog w) A (assign (.Tuple elts x1 tp) cenv v) (fun _ s₂ =>
          wpAny (model prog w) A (isTrue ct cenv (eval ct cenv)) (fun ok s₃ =>
            if ok = true then wpAny (model prog w) A (eval elt cenv) (fun x s₄ =>
              wpAny (model prog w) A (call (.builtin "list.append") [acc, x]) (fun _ s₅ => ∃ m, m < n ∧ I m s₅) (notedBy (model prog w) A cenv fun e s' => R (.error e) s') s₄) (notedBy (model prog w) A cenv fun e s' => R (.error e) s') s₃
            else ∃ m, m < n ∧ I m s₃) (notedBy (model prog w) A cenv fun e s' => R (.error e) s') s₂)
          (notedBy (model prog w) A cenv fun e s' => R (.error e) s') s₁') (notedBy (model prog w) A cenv fun e s' => R (.error e) s') s₁) (notedBy (model prog w) A cenv fun e s' => R (.error e) s') s)
    (n : Nat) (h : I n s) : codeAny (model prog w) A (.compLoop (.ListComp elt [⟨.Tuple elts x1 tp, iter, [ct], 0⟩] scope pos) 0 it acc cenv) R s := by
  refine codeAny_loop rfl I (fun n s hI => ?_) n h
  show wpAny _ A ((compTurn (.ListComp elt [⟨.Tuple elts x1 tp, iter, [ct], 0⟩] scope pos) 0 it acc cenv).onRaise (fun x => do noteFrame x cenv; theTreesLotGoes x)) _ _ s
  refine wpAny_noted ?_
  rw [compTurn_list]
  refine wpAny_bind (wpAny_standAt (wpAny_bind (wpAny_mono (turn n s hI) (fun r s₁ h₁ => ?_) fun _ _ q => q)))
  cases r with
  | none => exact wpAny_pure h₁
  | some v =>
    refine wpAny_bind (wpAny_mono h₁ (fun _ s₁' h₁' => ?_) fun _ _ q => q)
    refine wpAny_bind (wpAny_mono h₁' (fun _ s₂ h₂ => wpAny_bind (wpAny_mono (wpAny_tests_one h₂) (fun ok s₃ h₃ => ?_) fun _ _ q => q)) fun _ _ q => q)
    cases ok with
    | false => exact wpAny_pure ⟨rfl, h₃⟩
    | true => exact wpAny_bind (wpAny_bind (wpAny_mono h₃ (fun x s₄ h₄ => wpAny_bind (wpAny_mono h₄ (fun _ s₅ h₅ => wpAny_pure (wpAny_pure ⟨rfl, h₅⟩)) fun _ _ q => q)) fun _ _ q => q))
/-- the two new objects of a comprehension: its list and its names -/
theorem comp_open {h₀ : Heap} {L : Addr} {m : Str → Option Value} {news : List (Addr × Obj)} {elt iter target : Expr} {ifs : List Expr} {scope : Scope} {cl : List (Str × Addr)} {pos : PySem.Pos} {it : Addr} {RR : Value → Addr → Result → Shared → Prop}
    (hcell : ∀ y ∈ scope.names, y.2 ≠ .cell) (hkind : scope.kind = .function) (F : Fr h₀ L s.heap m) (N : News h₀ L s.heap news)
    (hself : ∀ h' tk (Q : Value → Shared → Prop) (E' : Value → Shared → Prop), (∀ b o, s.heap.get? b = some o → h'.get? b = some o) → Q (.ref it) { s with heap := h', toks := tk } → wpAny (model prog w) A (pyIter (.ref it)) Q E' { s with heap := h', toks := tk })
    (k : ∀ D C oC h₁ tk, Fr h₀ L h₁ m → News h₀ L h₁ ((C, oC) :: (D, lst []) :: news) → NsObj oC (fun _ => none) → @Ne Nat C D → Off1 C news → Off1 D news → L < D → L < C → (∀ b o, s.heap.get? b = some o → h₁.get? b = some o) →
      codeAny (model prog w) A (.compLoop (.ListComp elt [⟨target, iter, ifs, 0⟩] scope pos) 0 (.ref it) (.ref D) (compEnvC scope cl C env)) (RR (.ref D) C) { s with heap := h₁, toks := tk }) :
    wpAny (model prog w) A (newList []) (fun acc s₃ => wpAny (model prog w) A (newFunctionEnv scope env.globals cl [] env.qual none .none (some env)) (fun cenv s₄ =>
      codeAny (model prog w) A (.compStart (.ListComp elt [⟨target, iter, ifs, 0⟩] scope pos) 0 (.ref it) acc { cenv with scope := relabel scope env }) (RR acc cenv.locals) s₄) E s₃) E s := by
  refine wpAny_newObj_type (wpAny_newFunctionEnv hcell (by intro y hy; simp at hy) (fun h₁ hns₁ hsb₁ => ?_) hkind)
  dsimp only at hns₁ hsb₁ ⊢
  generalize hH2 : s.heap.push { cls := .type "list", dict := none, data := .seq ([] : List Value).toArray } = H2 at hns₁ hsb₁ ⊢
  have hC : H2.objs.size = s.heap.objs.size + 1 := by rw [← hH2, Heap.size_push]
  have hLlt : L < s.heap.objs.size := F.ns.lt
  have old : ∀ b o, s.heap.get? b = some o → h₁.get? b = some o := fun b o q => by
    have hb := Heap.lt_size q
    exact hsb₁.extBut b o (by rw [hC]; exact Nat.ne_of_lt (Nat.lt_succ_of_lt hb)) (Heap.get?_push_of_some _ (hH2 ▸ Heap.get?_push_of_some _ q))
  have hDC : s.heap.objs.size ≠ H2.objs.size := by rw [hC]; exact Nat.ne_of_lt (Nat.lt_succ_self _)
  have hacc : h₁.get? s.heap.objs.size = some (lst []) := hsb₁.extBut _ _ hDC (Heap.get?_push_of_some _ (hH2 ▸ Heap.get?_push_size _ rfl))
  have fresh : ∀ a, s.heap.objs.size ≤ a → h₀.get? a = none := fun a ha => by
    cases q : h₀.get? a with
    | none => rfl
    | some o => exact absurd (Heap.lt_size (F.keep _ _ q)) (Nat.not_lt.mpr ha)
  have offs : ∀ a, s.heap.objs.size ≤ a → Off1 a news := fun a ha => by
    have : ∀ l : List (Addr × Obj), (∀ p ∈ l, p.1 < s.heap.objs.size) → Off1 a l := by
      intro l
      induction l with
      | nil => intro _; trivial
      | cons p l ih => intro q; exact ⟨Nat.ne_of_lt (Nat.lt_of_lt_of_le (q p (.head _)) ha), ih fun r hr => q r (.tail _ hr)⟩
    exact this news fun p hp => Heap.lt_size (N p hp).1
  obtain ⟨oC, heC, hoC⟩ := ns_obj hns₁
  have loop := fun tk => k s.heap.objs.size H2.objs.size oC h₁ tk (F.keeps old) (fun p hp => by
    rcases List.mem_cons.mp hp with rfl | hp
    · exact ⟨heC, by rw [hC]; exact Nat.ne_of_gt (Nat.lt_succ_of_lt hLlt), fresh _ (by rw [hC]; exact Nat.le_succ _)⟩
    · rcases List.mem_cons.mp hp with rfl | hp
      · exact ⟨hacc, Nat.ne_of_gt hLlt, fresh _ (Nat.le_refl _)⟩
      · exact ⟨old _ _ (N p hp).1, (N p hp).2⟩) hoC (Ne.symm hDC) (offs _ (by rw [hC]; exact Nat.le_succ _)) (offs _ (Nat.le_refl _)) hLlt (by rw [hC]; exact Nat.lt_succ_of_lt hLlt) old
  exact codeAny_compStart_list (loop _) (hself h₁ _ _ _ old (loop _))
/-- what a turn's parts keep -/
def Kp (h₀ : Heap) (L : Addr) (m : Str → Option Value) (all : List (Addr × Obj)) (s s' : Shared) : Prop := ∃ h' tk', s' = { s with heap := h', toks := tk' } ∧ Fr h₀ L h' m ∧ News h₀ L h' all
theorem Kp.mk {h₀ : Heap} {L : Addr} {m : Str → Option Value} {all : List (Addr × Obj)} {h' : Heap} {tk' : Nat} (F : Fr h₀ L h' m) (N : News h₀ L h' all) : Kp h₀ L m all s { s with heap := h', toks := tk' } := ⟨h', tk', rfl, F, N⟩
theorem ListComp_enum {h₀ : Heap} {L c : Addr} {m : Str → Option Value} {news : List (Addr × Obj)} {items : Array Value} {elt ct iter : Expr} {x x₂ : Str} {px px₂ tp : PySem.Pos} {tk0 : Nat} {scope : Scope} {cl : List (Str × Addr)} {pos : PySem.Pos} {Q : Value → Shared → Prop}
    (hclos : closureFor scope env = pure cl) (hcell : ∀ y ∈ scope.names, y.2 ≠ .cell) (hkind : scope.kind = .function)
    (hnames : ∀ y ∈ scope.names, y.2 = .local → scope.names.lookup y.1 = some .local) (hx : scope.names.lookup x = some .local) (hx₂ : scope.names.lookup x₂ = some .local) (hxx : x ≠ x₂) (hh : A.handled = none) (hc : h₀.IsList c items) (hsz : items.size ≤ 1000)
    (inv : Nat → List Value → Prop) (h0 : inv 0 []) (hlen : ∀ i ys, inv i ys → ys.length ≤ i)
    (he : wpAny (model prog w) A (eval iter env) (fun xv s₁ => Stp (∃ tk h₁ e I oI, xv = .ref e ∧ s₁ = { s with heap := h₁, toks := tk } ∧ Fr h₀ L h₁ m ∧ News h₀ L h₁ ((e, enumO I) :: (I, oI) :: news) ∧ h₁.IsListIter I c 0 ∧ L < I ∧ I < e ∧ Off1 e news ∧ Off1 I news)) E s)
    (turn : ∀ i v t e oE I oI C oC D m₂ h tk ys (E' : Value → Shared → Prop), items[i]? = some v → inv i ys → NsObj oC m₂ → m₂ x = some (.int i t) → m₂ x₂ = some v → Fr h₀ L h m → News h₀ L h ((e, oE) :: (I, oI) :: (C, oC) :: (D, lst ys) :: news) →
      (@Ne Nat I e) → (@Ne Nat C e) → (@Ne Nat D e) → (@Ne Nat C I) → (@Ne Nat D I) → (@Ne Nat D C) → Off1 e news → Off1 I news → Off1 C news → Off1 D news →
      wpAny (model prog w) A (isTrue ct (compEnvC scope cl C env) (eval ct (compEnvC scope cl C env))) (fun ok s' => Stp (Kp h₀ L m ((e, oE) :: (I, oI) :: (C, oC) :: (D, lst ys) :: news) s s' ∧
        (if ok = true then wpAny (model prog w) A (eval elt (compEnvC scope cl C env)) (fun y s'' => Stp (Kp h₀ L m ((e, oE) :: (I, oI) :: (C, oC) :: (D, lst ys) :: news) s s'' ∧ inv (i + 1) (ys ++ [y]))) E' s' else inv (i + 1) ys))) E' { s with heap := h, toks := tk })
    (fin : ∀ D h tk ys, Fr h₀ L h m → News h₀ L h ((D, lst ys) :: news) → Off1 D news → inv items.size ys → Q (.ref D) { s with heap := h, toks := tk })
    (hs : ∀ x, foldedSetIterable iter env x = pure x := by intro _; rfl) :
    wpAny (model prog w) A (eval (.ListComp elt [⟨.Tuple [.Name x px, .Name x₂ px₂] tk0 tp, iter, [ct], 0⟩] scope pos) env) Q E s := by
  rw [eval_ListComp]
  refine wpAny_comprehension_free (use := none) rfl hs hclos hkind hnames (wpAny_mono he (fun xv s₁ hh1 => ?_) fun _ _ q => q)
  obtain ⟨tk, h₁, e, I, oI, rfl, rfl, F, N, hit, hLI, hIe, oe, oi⟩ := Stp.out hh1
  clear hh1
  have hen := (N _ (.head _)).1
  have he0 : h₀.get? e = none := (N _ (.head _)).2.2
  have hI0 : h₀.get? I = none := (N _ (.tail _ (.head _))).2.2
  refine wpAny_pyIter_enum hen ?_
  refine comp_open hcell hkind F N (fun h' tk' Q' E' up hQ => wpAny_pyIter_enum (up _ _ hen) hQ) fun D C oC h2 tk2 F2 N2 hoC hCD oC1 oD1 hLD hLC up => ?_
  have hDC : D ≠ C := Ne.symm hCD
  have hDe : D ≠ e := Ne.symm oD1.1
  have hDI : D ≠ I := Ne.symm oD1.2.1
  have hCe : C ≠ e := Ne.symm oC1.1
  have hCI : C ≠ I := Ne.symm oC1.2.1
  have oC2 : Off1 C news := oC1.2.2
  have oD2 : Off1 D news := oD1.2.2
  have hD0 : h₀.get? D = none := (N2 _ (.tail _ (.head _))).2.2
  have hC0 : h₀.get? C = none := (N2 _ (.head _)).2.2
  have hLe : L ≠ e := Nat.ne_of_lt (Nat.lt_trans hLI hIe)
  have hLI' : L ≠ I := Nat.ne_of_lt hLI
  have hLD' : L ≠ D := Nat.ne_of_lt hLD
  have hLC' : L ≠ C := Nat.ne_of_lt hLC
  have heI : e ≠ I := Nat.ne_of_gt hIe
  refine compLoop_pairT (fun k s' => ∃ h' tk' i old ys m', s' = { s with heap := h', toks := tk' } ∧ i ≤ items.size ∧ k = items.size + 1 - i ∧ IsEnum h' e I ((i : Nat) : Int) old ∧ h'.IsListIter I c i ∧ Fr h₀ L h' m ∧ h'.Ns C m' ∧ News h₀ L h' ((D, lst ys) :: news) ∧ inv i ys) ?_ (items.size + 1)
    ⟨h2, tk2, 0, .none, [], _, rfl, Nat.zero_le _, rfl, up _ _ hen, hit.at fun o q => up _ o q, F2, hoC.ns (N2 _ (.head _)).1, fun p hp => ?_, h0⟩
  · rintro k s' ⟨h', tk', i, old, ys, m', rfl, hi, rfl, hen', hit', F', hn', N', hinv⟩
    have hcl' : h'.IsList c items := hc.at fun o q => F'.keep _ _ q
    by_cases hin : i < items.size
    · refine enum_step (env := compEnvC scope cl C env) hh (lookup_relabel_local hx) (lookup_relabel_local hx₂) (by simp [compEnvC, relabel, hkind]) hen' hit' hcl' (v := items[i]) (Array.getElem?_eq_getElem hin) hn' heI (Ne.symm hCe) (Ne.symm hCI) fun h3 tk3 t3 hen3 hit3 hn3 hsz3 k3 => ?_
      have k3' : ∀ b o, b ≠ e → b ≠ I → b ≠ C → h'.get? b = some o → h3.get? b = some o := k3
      obtain ⟨oI3, hoI3, hI3⟩ := id hit3
      obtain ⟨oC3, heC3, hoC3⟩ := ns_obj hn3
      have F3 : Fr h₀ L h3 m := ⟨F'.ns.at' fun o q => k3' L o hLe hLI' hLC' q, fun b o q => k3' b o (fun r => by rw [r, he0] at q; cases q) (fun r => by rw [r, hI0] at q; cases q) (fun r => by rw [r, hC0] at q; cases q) (F'.keep b o q), F'.above⟩
      have N3 : News h₀ L h3 ((e, _) :: (I, oI3) :: (C, oC3) :: (D, lst ys) :: news) := fun p hp => by
        rcases List.mem_cons.mp hp with rfl | hp
        · exact ⟨hen3, Ne.symm hLe, he0⟩
        · rcases List.mem_cons.mp hp with rfl | hp
          · exact ⟨hoI3, Ne.symm hLI', hI0⟩
          · rcases List.mem_cons.mp hp with rfl | hp
            · exact ⟨heC3, Ne.symm hLC', hC0⟩
            · refine ⟨k3' _ _ ?_ ?_ ?_ (N' p hp).1, (N' p hp).2⟩
              · rcases List.mem_cons.mp hp with rfl | hp
                · exact hDe
                · exact off1_ne oe p hp
              · rcases List.mem_cons.mp hp with rfl | hp
                · exact hDI
                · exact off1_ne oi p hp
              · rcases List.mem_cons.mp hp with rfl | hp
                · exact hDC
                · exact off1_ne oC2 p hp
      refine wpAny_mono (turn i items[i] t3 e _ I oI3 C oC3 D _ h3 tk3 ys _ (Array.getElem?_eq_getElem hin) hinv hoC3 (by simp [hxx]) (by simp) F3 N3 (Ne.symm heI) hCe hDe hCI hDI hDC oe oi oC2 oD2) (fun ok s4 hk4 => ?_) fun _ _ q => q
      obtain ⟨⟨h4, tk4, rfl, F4, N4⟩, hrest⟩ := Stp.out hk4
      clear hk4
      have hit4 : ∀ hh' : Heap, hh'.get? I = some oI3 → hh'.IsListIter I c (i + 1) := fun hh' q => ⟨oI3, q, hI3⟩
      cases ok with
      | false =>
        rw [if_neg (by decide)] at hrest ⊢
        exact ⟨items.size + 1 - (i + 1), by omega, h4, tk4, i + 1, _, ys, _, rfl, hin, rfl, (N4 _ (.head _)).1, hit4 _ (N4 _ (.tail _ (.head _))).1, F4, hoC3.ns (N4 _ (.tail _ (.tail _ (.head _)))).1, fun p hp => N4 p (.tail _ (.tail _ (.tail _ hp))), hrest⟩
      | true =>
        rw [if_pos rfl] at hrest ⊢
        refine wpAny_mono hrest (fun y s5 hk5 => ?_) fun _ _ q => q
        obtain ⟨⟨h5, tk5, rfl, F5, N5⟩, hinv5⟩ := Stp.out hk5
        clear hk5
        have zD := (N5 (D, lst ys) (.tail _ (.tail _ (.tail _ (.head _))))).1
        refine append_at (hsz := by have := hlen i ys hinv; rw [List.size_toArray, sizeLine_eq]; omega) zD fun h6 hs6 hD6 => ?_
        refine ⟨items.size + 1 - (i + 1), by omega, h6, tk5, i + 1, _, ys ++ [y], _, rfl, hin, rfl, (hs6.2 e (Ne.symm hDe)).trans (N5 _ (.head _)).1, hit4 _ ((hs6.2 I (Ne.symm hDI)).trans (N5 _ (.tail _ (.head _))).1), F5.change hs6 (Ne.symm hLD') hD0,
          hoC3.ns ((hs6.2 C (Ne.symm hDC)).trans (N5 _ (.tail _ (.tail _ (.head _)))).1), fun p hp => ?_, hinv5⟩
        rcases List.mem_cons.mp hp with rfl | hp
        · exact ⟨hD6.trans (congrArg some (lst_snoc ys y)), Ne.symm hLD', hD0⟩
        · have z := N5 p (.tail _ (.tail _ (.tail _ (.tail _ hp))))
          exact ⟨(hs6.2 _ (off1_ne oD2 p hp)).trans z.1, z.2⟩
    · have hie : i = items.size := by omega
      subst hie
      refine wpAny_pyNext_enum_end hh hen' hit' hcl' (by simp) fun h3 he3 => ?_
      have he3' : ∀ b o, b ≠ I → h'.get? b = some o → h3.get? b = some o := he3
      refine ⟨m', hn'.at' fun o q => he3' C o hCI q, fun h6 hs6 => ?_⟩
      have F3 : Fr h₀ L h3 m := ⟨F'.ns.at' fun o q => he3' L o hLI' q, fun b o q => he3' b o (fun r => by rw [r, hI0] at q; cases q) (F'.keep b o q), F'.above⟩
      refine fin D h6 tk' ys (F3.change hs6 (Ne.symm hLC') hC0) (fun p hp => ?_) oD2 hinv
      have hs6' : ∀ b, b ≠ C → h6.get? b = h3.get? b := hs6.2
      rcases List.mem_cons.mp hp with rfl | hp
      · exact ⟨(hs6' D hDC).trans (he3' _ _ hDI (N' _ (.head _)).1), Ne.symm hLD', hD0⟩
      · exact ⟨(hs6' _ (off1_ne oC2 p hp)).trans (he3' _ _ (off1_ne oi p hp) (N' p (.tail _ hp)).1), (N' p (.tail _ hp)).2⟩
  · rcases List.mem_cons.mp hp with rfl | hp
    · exact N2 _ (.tail _ (.head _))
    · exact N2 p (.tail _ (.tail _ (.tail _ (.tail _ hp))))
end
end Mine
end
section
open PySem PySem.W PyProof.Rows PySem.Calls PySem.Spec PyProof.Rows.LCg
namespace Mine
section
variable {prog : Program} {w : World} {A : Around} {E : Value → Shared → Prop} {s : Shared} {env : Env}
def rangeO (x left : Int) : Obj := { cls := .type "range_iterator", dict := none, data := .fields #[rawInt x, rawInt left, rawInt 1], slots := #[] }
/-- a for over range(n), the name kept where it is kept -/
theorem For_range {h₀ : Heap} {L : Addr} {m : Str → Option Value} {news : List (Addr × Obj)} {n : Nat} {x : Str} {px pos : PySem.Pos} {iter : Expr} {body : List Stmt} {Q : Flow → Shared → Prop} (hL : env.locals = L) (J : Nat → (Str → Option Value) → List (Addr × Obj) → Prop)
    (hh : A.handled = none) (hn : n ≤ 1000000)
    (he : wpAny (model prog w) A (eval iter env) (fun xv s₁ => Stp (∃ tk h₁ r t u v, xv = .ref r ∧ s₁ = { s with heap := h₁, toks := tk } ∧ IsRange h₁ r 0 (n : Int) 1 t u v ∧ Fr h₀ L h₁ m ∧ News h₀ L h₁ news)) E s)
    (h0 : J 0 m news)
    (turn : ∀ i t m₁ nw h₁ tk₁ I oI, i < n → J i m₁ nw → Off1 I nw → L < I → Fr h₀ L h₁ m₁ → News h₀ L h₁ ((I, oI) :: nw) →
      wpAny (model prog w) A (assign (.Name x px) env (.int (i : Int) t)) (fun _ s₃ => wpAny (model prog w) A (execs body env) (TurnEnd h₀ L s I oI (J (i + 1))) E s₃) E { s with heap := h₁, toks := tk₁ })
    (done : ∀ h' tk m' nw, J n m' nw → Fr h₀ L h' m' → News h₀ L h' nw → Q .next { s with heap := h', toks := tk })
    (hs : ∀ x, foldedSetIterable iter env x = pure x := by intro _; rfl)
    (hE : PassesOwn (model prog w) A env E := by passes_own) :
    wpAny (model prog w) A (exec (.For (.Name x px) iter body [] pos) env) Q E s := by
  subst hL
  refine wpAny_For (wpAny_mono he (fun xv s₁ hh1 => ?_) fun _ _ e => e) hs
  obtain ⟨tk, h₁, r, t, u, v, rfl, rfl, hr, F, N⟩ := Stp.out hh1
  clear hh1
  have hsz : Builtin.Range.rangeSize 0 (n : Int) 1 = (n : Int) := by
    unfold Builtin.Range.rangeSize
    rw [if_pos (by decide)]
    by_cases h : (0 : Int) < n
    · rw [if_pos h]; omega
    · rw [if_neg h]; omega
  have hsm : Builtin.Range.small 0 (n : Int) 1 = true := by
    have f : ∀ k : Int, 0 ≤ k → k ≤ 2000000 → Builtin.Range.rangeFitsLong k = true := by
      intro k h1 h2
      unfold Builtin.Range.rangeFitsLong
      simp only [Bool.and_eq_true, decide_eq_true_eq]
      omega
    unfold Builtin.Range.small
    rw [hsz, f 0 (by omega) (by omega), f (n : Int) (by omega) (by omega), f 1 (by omega) (by omega), if_pos (by decide), f ((n : Int) + (1 - 1)) (by omega) (by omega)]
    simp
  refine wpAny_pyIter_range hr hsm ?_
  rw [hsz]
  have up : ∀ b o, h₁.get? b = some o → (h₁.push { cls := .type "range_iterator", data := .fields #[rawInt 0, rawInt (n : Int), rawInt 1] }).get? b = some o := fun b o e => Heap.get?_push_of_some _ e
  have hI0 : h₀.get? h₁.objs.size = none := by
    cases e : h₀.get? h₁.objs.size with
    | none => rfl
    | some o => exact absurd (Heap.lt_size (F.keep _ _ e)) (Nat.lt_irrefl _)
  have hLI : env.locals < h₁.objs.size := F.ns.lt
  generalize hI : h₁.objs.size = I at *
  refine codeAny_forLoop (R := fun r s' => match r with | .ok f => Q f s' | .error e => cameBackBy (model prog w) A env E e s')
    (fun k s' => ∃ h' tk m' nw' i, s' = { s with heap := h', toks := tk } ∧ IsRangeIter h' I ((i : Nat) : Int) ((n : Int) - ((i : Nat) : Int)) 1 ∧ Fr h₀ env.locals h' m' ∧ News h₀ env.locals h' nw' ∧ Off1 I nw' ∧ J i m' nw' ∧ i ≤ n ∧ k = n + 1 - i) ?_ (n + 1)
    ⟨_, tk, m, news, 0, rfl, ?_, F.keeps up, N.grown up, ?_, h0, Nat.zero_le _, rfl⟩
  · rintro k s' ⟨h', tk', m', nw', i, rfl, hit, F', N', hoff, hJ, hi, rfl⟩
    by_cases hin : i < n
    · refine wpAny_passesOwn hE (wpAny_pyNext_range_item hit (by omega) fun h2 hit2 hsb => ?_)
      have F2 := F'.change hsb (Nat.ne_of_gt hLI) hI0
      have hoI : h2.get? I = some (rangeO ((i : Int) + 1) ((n : Int) - ((i : Nat) : Int) - 1)) := hit2
      refine wpAny_passesOwn hE (wpAny_mono (turn i tk' m' nw' h2 (tk' + 1) I (rangeO ((i : Int) + 1) ((n : Int) - ((i : Nat) : Int) - 1)) hin hJ hoff hLI F2 (fun p hp => ?_)) (fun _ s3 h3 => ?_) fun _ _ e => e)
      · rcases List.mem_cons.mp hp with rfl | hp
        · exact ⟨hoI, Nat.ne_of_gt hLI, hI0⟩
        · exact ⟨(hsb.2 _ (off1_ne hoff p hp)).trans (N' p hp).1, (N' p hp).2⟩
      · refine wpAny_passesOwn hE (wpAny_mono h3 (fun f s4 h4 => ?_) fun _ _ e => e)
        obtain ⟨rfl, h4, tk4, m4, nw4, rfl, F4, N4, o4, J4⟩ := h4
        refine ⟨n + 1 - (i + 1), by omega, h4, tk4, m4, nw4, i + 1, rfl, ?_, F4, fun p hp => N4 p (.tail _ hp), o4, J4, hin, rfl⟩
        have := (N4 _ (.head _)).1
        have e1 : ((i + 1 : Nat) : Int) = (i : Int) + 1 := by push_cast; rfl
        have e2 : (n : Int) - ((i + 1 : Nat) : Int) = (n : Int) - (i : Int) - 1 := by push_cast; omega
        rw [e2, e1]
        exact this
    · have hie : i = n := by omega
      subst hie
      refine wpAny_passesOwn hE (wpAny_pyNext_range_end hh hit (by omega) fun h2 he2 => wpAny_execs_nil ?_)
      have keepN : ∀ p ∈ nw', h2.get? p.1 = some p.2 := fun p hp => he2 _ _ (off1_ne hoff p hp) (N' p hp).1
      refine done h2 tk' m' nw' hJ ⟨F'.ns.at' fun o e => he2 _ o (Nat.ne_of_lt hLI) e, fun b o e => he2 b o (fun q => by rw [q, hI0] at e; cases e) (F'.keep b o e), F'.above⟩ fun p hp => ⟨keepN p hp, (N' p hp).2⟩
  · show (h₁.push _).get? I = _
    rw [← hI]
    exact (Heap.get?_push_size _ rfl).trans (by simp)
  · have : ∀ l : List (Addr × Obj), (∀ p ∈ l, p.1 < I) → Off1 I l := by
      intro l
      induction l with
      | nil => intro _; trivial
      | cons p l ih => intro h; exact ⟨Nat.ne_of_lt (h p (.head _)), ih fun q hq => h q (.tail _ hq)⟩
    exact this news fun p hp => by rw [← hI]; exact Heap.lt_size (N p hp).1
end
end Mine
end
section
open PySem PySem.W PyProof.Rows PySem.Calls
namespace Mine
local macro_rules | `(tactic| walk_at "mine N1 0") => `(tactic| fail)
local macro_rules | `(tactic| walk_at "mine N1 1") => `(tactic| fail)
local macro_rules | `(tactic| walk_at "mine N1 2") => `(tactic| fail)
local macro_rules | `(tactic| walk_at "mine N1 3") => `(tactic| fail)
local macro_rules | `(tactic| walk_at "mine N1 4") => `(tactic| fail)
local macro_rules | `(tactic| walk_at "mine N1 5") => `(tactic| fail)
local macro_rules | `(tactic| walk_at "mine N1 6") => `(tactic| fail)
local macro_rules | `(tactic| walk_at "mine N1 7") => `(tactic| fail)
local macro_rules | `(tactic| walk_at "mine N1 8") => `(tactic| fail)
local macro_rules | `(tactic| walk_at "mine N1 9") => `(tactic| fail)
local macro_rules | `(tactic| walk_at "mine N1 10") => `(tactic| fail)
local macro_rules | `(tactic| walk_at "mine N1 11") => `(tactic| fail)
local macro_rules | `(tactic| walk_at "mine N1 12") => `(tactic| fail)
local macro_rules | `(tactic| walk_at "mine N1 13") => `(tactic| fail)
local macro_rules | `(tactic| walk_at "mine N1 14") => `(tactic| fail)
local macro_rules | `(tactic| walk_at "mine N1 15") => `(tactic| fail)
local macro_rules | `(tactic| walk_at "mine N1 16") => `(tactic| fail)
local macro_rules | `(tactic| walk_at "mine N1 17") => `(tactic| fail)
local macro_rules | `(tactic| walk_at "mine N1 18") => `(tactic| fail)
local macro_rules | `(tactic| walk_at "mine N1 19") => `(tactic| fail)
local macro_rules | `(tactic| walk_at "mine N1 20") => `(tactic| fail)
local macro_rules | `(tactic| walk_at "mine N1 21") => `(tactic| fail)
local macro_rules | `(tactic| walk_at "mine N1 22") => `(tactic| fail)
local macro_rules | `(tactic| walk_at "mine N1 23") => `(tactic| fail)
local macro_rules | `(tactic| walk_at "mine N1 24") => `(tactic| fail)
theorem fillK_N1 (P : Params) : hd.heap_1 P = hd.heap_1 P ∧ PySem.Challenge.rw_to0014_01 = PySem.Challenge.rw_to0014_01 := by
  k_fill
  exact ⟨rfl, rfl⟩
local macro_rules | `(tactic| cell_enter) => `(tactic| (refine' enter_plain ?k3 ?k5 ?k6 ?k7 ?k8 ?k9 ?kB ?_ ?c2 ?c3 ?c4 ?c5; (case k3 => k_asm); (case k5 => k_asm); (case k6 => k_is); (case k7 => k_is); (case k8 => omega); (case k9 => exact BindsTo.of_eq rfl); (case c5 => decide); (case kB => exact locs rfl); (case c2 => exact rfl); (case c3 => exact rfl); (case c4 => exact rfl); k_whole; intro L' h' hL' F' N'; (try dsimp only); (try k_fold)))
local macro_rules | `(tactic| ktr_enter) => `(tactic| (refine' enter_cells ?k3 ?k5 ?k6 ?k7 ?k8 ?k9 ?kB ?kD ?_ ?c2 ?c3 ?c4; (case k3 => k_asm); (case k5 => k_asm); (case k6 => k_is); (case k7 => k_is); (case k8 => omega); (case k9 => exact BindsTo.of_eq rfl); (case kB => exact rfl); (case kD => decide +kernel); (case c2 => exact rfl); (case c3 => exact rfl); (case c4 => exact rfl); k_whole; intro L' h' tk' cells' hL' F' N' Y'; k_cells Y'; (try simp only [List.cons_append, List.nil_append] at N'); (try dsimp only); (try k_fold)))
theorem four_nums (ns : List Int) (e : Nat) (he : e = 6) : ∃ a b c d : Int, (0 ≤ a ∧ a < 1000000) ∧ (0 ≤ b ∧ b < 1000000) ∧ (0 ≤ c ∧ c < 1000000) ∧ (0 ≤ d ∧ d < 1000000) ∧
    List.map (fun k' : Int => k'.fmod (10 ^ e)) (List.take 4 ns) ++ List.drop (((List.map (fun k' : Int => k'.fmod (10 ^ e)) (List.take 4 ns)).length : Nat) : Int).toNat [8, 1, 2, 3] = [a, b, c, d] := by
  subst he
  have hb : ∀ k : Int, 0 ≤ k.fmod (10 ^ 6) ∧ k.fmod (10 ^ 6) < 1000000 := fun k => by
    have : (10 : Int) ^ 6 = 1000000 := by decide
    rw [this, Int.fmod_eq_emod_of_nonneg _ (by decide)]; omega
  rcases ns with _ | ⟨a, _ | ⟨b, _ | ⟨c, _ | ⟨d, r⟩⟩⟩⟩
  · exact ⟨8, 1, 2, 3, by omega, by omega, by omega, by omega, rfl⟩
  · exact ⟨_, 1, 2, 3, hb a, by omega, by omega, by omega, rfl⟩
  · exact ⟨_, _, 2, 3, hb a, hb b, by omega, by omega, rfl⟩
  · exact ⟨_, _, _, 3, hb a, hb b, hb c, by omega, rfl⟩
  · exact ⟨_, _, _, _, hb a, hb b, hb c, hb d, by simp⟩
section
set_option maxRecDepth 100000 in
set_option maxHeartbeats 8000000 in
theorem numbers_spec {w : World} {loose : List Str} {mean : ExcName → Option Value} {mg mb : Str → Option Value} (dp un : Nat) (gd : Option (List Code)) (outer : List Env) (s : Shared) (Q E : Value → Shared → Prop)
   (X : (hd.heap_1 w.params).In s.heap) (T : Top vw loose mean mg mb s.heap) (hd : dp + 5 < recursionLimit) (hu : un + 100 < cLine)
   (c : Addr) (vs : List Value) (ns : List Int) (hc : s.heap.IsList c vs.toArray) (hv : IntsAre vs ns) (hn : ns.length ≤ 63)
   (hret : ∀ (r : Addr) (vr : List Value) (h' : Heap) (tk' : Nat) (a b c d : Int), (0 ≤ a ∧ a < 1000000) → (0 ≤ b ∧ b < 1000000) → (0 ≤ c ∧ c < 1000000) → (0 ≤ d ∧ d < 1000000) →
      (∀ b o, s.heap.get? b = some o → h'.get? b = some o) → s.heap.get? r = none → (∃ n, h'.get? r = some (listOf vr.toArray n)) → IntsAre vr [a, b, c, d] → Q (.ref r) { s with heap := h', toks := tk' }) :
   wpAny (model PySem.Challenge.rw_to0014_01.row.prog w) (Ar dp un gd outer) (call (.ref 84) [.ref c]) Q E s := by
  w_top off
  refine wpAny_call ?_
  k_dflt cell_enter
  k_steps
  rename Fr _ _ _ _ => kF
  rename News _ _ _ _ => kN
  rename_i hI' _
  obtain ⟨a, b, c, d, ha, hb, hc, hd, he⟩ := four_nums ns (Int.toNat 6) (by decide)
  refine Lv.mk kF fun keep => ?_
  exact hret _ _ _ _ a b c d ha hb hc hd keep (kN _ (.head _)).2.2 ⟨_, (kN _ (.head _)).1⟩ (he ▸ hI')
end
end Mine
end
section
open PySem PySem.W PyProof.Rows PySem.Calls
namespace Mine
local macro_rules | `(tactic| walk_at "mine S2 0") => `(tactic| fail)
local macro_rules | `(tactic| walk_at "mine S2 1") => `(tactic| fail)
local macro_rules | `(tactic| walk_at "mine S2 2") => `(tactic| fail)
local macro_rules | `(tactic| walk_at "mine S2 3") => `(tactic| fail)
local macro_rules | `(tactic| walk_at "mine S2 4") => `(tactic| fail)
local macro_rules | `(tactic| walk_at "mine S2 5") => `(tactic| fail)
local macro_rules | `(tactic| walk_at "mine S2 6") => `(tactic| fail)
local macro_rules | `(tactic| walk_at "mine S2 7") => `(tactic| fail)
local macro_rules | `(tactic| walk_at "mine S2 8") => `(tactic| fail)
local macro_rules | `(tactic| walk_at "mine S2 9") => `(tactic| fail)
local macro_rules | `(tactic| walk_at "mine S2 10") => `(tactic| fail)
local macro_rules | `(tactic| walk_at "mine S2 11") => `(tactic| fail)
local macro_rules | `(tactic| walk_at "mine S2 12") => `(tactic| fail)
local macro_rules | `(tactic| walk_at "mine S2 13") => `(tactic| fail)
local macro_rules | `(tactic| walk_at "mine S2 14") => `(tactic| fail)
local macro_rules | `(tactic| walk_at "mine S2 15") => `(tactic| fail)
local macro_rules | `(tactic| walk_at "mine S2 16") => `(tactic| fail)
local macro_rules | `(tactic| walk_at "mine S2 17") => `(tactic| fail)
local macro_rules | `(tactic| walk_at "mine S2 18") => `(tactic| fail)
local macro_rules | `(tactic| walk_at "mine S2 19") => `(tactic| fail)
local macro_rules | `(tactic| walk_at "mine S2 20") => `(tactic| fail)
local macro_rules | `(tactic| walk_at "mine S2 21") => `(tactic| fail)
local macro_rules | `(tactic| walk_at "mine S2 22") => `(tactic| fail)
local macro_rules | `(tactic| walk_at "mine S2 23") => `(tactic| fail)
theorem fillK_S2 (P : Params) : hd.heap_1 P = hd.heap_1 P ∧ PySem.Challenge.rw_to0014_01 = PySem.Challenge.rw_to0014_01 := by
  k_fill
  exact ⟨rfl, rfl⟩
local macro_rules | `(tactic| cell_enter) => `(tactic| (refine' enter_plain ?k3 ?k5 ?k6 ?k7 ?k8 ?k9 ?kB ?_ ?c2 ?c3 ?c4 ?c5; (case k3 => k_asm); (case k5 => k_asm); (case k6 => k_is); (case k7 => k_is); (case k8 => omega); (case k9 => exact BindsTo.of_eq rfl); (case c5 => decide); (case kB => exact locs rfl); (case c2 => exact rfl); (case c3 => exact rfl); (case c4 => exact rfl); k_whole; intro L' h' hL' F' N'; (try dsimp only); (try k_fold)))
local macro_rules | `(tactic| ktr_enter) => `(tactic| (refine' enter_cells ?k3 ?k5 ?k6 ?k7 ?k8 ?k9 ?kB ?kD ?_ ?c2 ?c3 ?c4; (case k3 => k_asm); (case k5 => k_asm); (case k6 => k_is); (case k7 => k_is); (case k8 => omega); (case k9 => exact BindsTo.of_eq rfl); (case kB => exact rfl); (case kD => decide +kernel); (case c2 => exact rfl); (case c3 => exact rfl); (case c4 => exact rfl); k_whole; intro L' h' tk' cells' hL' F' N' Y'; k_cells Y'; (try simp only [List.cons_append, List.nil_append] at N'); (try dsimp only); (try k_fold)))
section
local macro_rules | `(tactic| walk_at "binaryOp Mult ref int") => `(tactic| (k_here; (with_reducible show wpAny _ _ (binaryOp Operator.Mult (Value.ref _) (Value.int _ _)) _ _ _); k_dflt (refine' mul_rep ?F ?N ?l ?lo ?hi ?_; (case F => k_asm); (case N => k_asm); (case l => is_list); (case lo => (try simp only [Int.fdiv_eq_ediv_of_nonneg _ (show (0:Int) ≤ 3 by decide), Int.fdiv_eq_ediv_of_nonneg _ (show (0:Int) ≤ 2 by decide), Int.fmod_eq_emod_of_nonneg _ (show (0:Int) ≤ 3 by decide), Int.fmod_eq_emod_of_nonneg _ (show (0:Int) ≤ 2 by decide)]); omega); (case hi => (try simp only [Int.fdiv_eq_ediv_of_nonneg _ (show (0:Int) ≤ 3 by decide), Int.fdiv_eq_ediv_of_nonneg _ (show (0:Int) ≤ 2 by decide), Int.fmod_eq_emod_of_nonneg _ (show (0:Int) ≤ 3 by decide), Int.fmod_eq_emod_of_nonneg _ (show (0:Int) ≤ 2 by decide)]); omega)); intro l' h' F' N' l1; (try k_lt l1); (try k_sweep)))
local macro_rules | `(tactic| walk_at "binaryOp Add ref ref") => `(tactic| (k_here; (with_reducible show wpAny _ _ (binaryOp Operator.Add (Value.ref _) (Value.ref _)) _ _ _); k_dflt (refine' add_two ?F ?N ?l ?b ?z ?_; (case F => k_asm); (case N => k_asm); (case l => is_list); (case b => is_list); (case z => (simp only [List.length_append, List.length_replicate]; omega))); intro l' h' F' N' l1; (try k_lt l1); (try k_sweep)))
set_option maxRecDepth 100000 in
set_option maxHeartbeats 0 in
theorem row_spec {w : World} {loose : List Str} {mean : ExcName → Option Value} {mg mb : Str → Option Value} (dp un : Nat) (gd : Option (List Code)) (outer : List Env) (s : Shared) (Q E : Value → Shared → Prop)
   (X : (hd.heap_1 w.params).In s.heap) (T : Top vw loose mean mg mb s.heap) (hd : dp + 5 < recursionLimit) (hu : un + 100 < cLine)
   (c : Addr) (vs : List Value) (ns : List Int) (t : Int) (tk : Tok)
   (hc : s.heap.IsList c vs.toArray) (hv : IntsAre vs ns) (ht : 1 ≤ t ∧ t ≤ 3) (hn : ns.length ≤ 4) (hb : 0 ≤ ns.sum ∧ ns.sum ≤ 20)
   (hret : ∀ (r : Addr) (vr : List Value) (h' : Heap) (tk' : Nat), (∀ b o, s.heap.get? b = some o → h'.get? b = some o) → s.heap.get? r = none → h'.IsList r vr.toArray → IntsAre vr (List.replicate ((1 + t + ns.sum).fdiv 3).toNat 52 ++ List.replicate ((1 + t + ns.sum).fmod 3).toNat 23 ++ List.replicate ((ns.length : Int).fdiv 2).toNat 27 ++ List.replicate ((ns.length : Int).fmod 2).toNat 22) → Q (.ref r) { s with heap := h', toks := tk' }) :
   wpAny (model PySem.Challenge.rw_to0014_01.row.prog w) (Ar dp un gd outer) (call (.ref 113) [.ref c, .int t tk]) Q E s := by
  w_top off
  have f1 : ((1 + t + ns.sum).fdiv 3).toNat ≤ 100 := by rw [Int.fdiv_eq_ediv_of_nonneg _ (by decide)]; omega
  have f2 : ((1 + t + ns.sum).fmod 3).toNat ≤ 100 := by rw [Int.fmod_eq_emod_of_nonneg _ (by decide)]; omega
  have f3 : ((ns.length : Int).fdiv 2).toNat ≤ 100 := by rw [Int.fdiv_eq_ediv_of_nonneg _ (by decide)]; omega
  have f4 : ((ns.length : Int).fmod 2).toNat ≤ 100 := by rw [Int.fmod_eq_emod_of_nonneg _ (by decide)]; omega
  refine wpAny_call ?_
  k_dflt cell_enter
  k_steps
  rename Fr _ _ _ _ => kF
  rename News _ _ _ _ => kN
  refine Lv.mk kF fun keep => ?_
  exact hret _ _ _ _ keep (kN _ (.head _)).2.2 (News.isList kN (.head _)) (((IntsAre.append (IntsAre.append (IntsAre.append (intsAre_rep _) (intsAre_rep _)) (intsAre_rep _)) (intsAre_rep _))))
end
end Mine
end
section
open PySem PySem.W PyProof.Rows PySem.Calls PyProof.Rows.LCg PyProof.Rows.LCt
namespace Mine
local macro_rules | `(tactic| walk_at "mine R1 0") => `(tactic| fail)
local macro_rules | `(tactic| walk_at "mine R1 1") => `(tactic| fail)
local macro_rules | `(tactic| walk_at "mine R1 2") => `(tactic| fail)
local macro_rules | `(tactic| walk_at "mine R1 3") => `(tactic| fail)
local macro_rules | `(tactic| walk_at "mine R1 4") => `(tactic| fail)
local macro_rules | `(tactic| walk_at "mine R1 5") => `(tactic| fail)
local macro_rules | `(tactic| walk_at "mine R1 6") => `(tactic| fail)
local macro_rules | `(tactic| walk_at "mine R1 7") => `(tactic| fail)
local macro_rules | `(tactic| walk_at "mine R1 8") => `(tactic| fail)
local macro_rules | `(tactic| walk_at "mine R1 9") => `(tactic| fail)
local macro_rules | `(tactic| walk_at "mine R1 10") => `(tactic| fail)
local macro_rules | `(tactic| walk_at "mine R1 11") => `(tactic| fail)
local macro_rules | `(tactic| walk_at "mine R1 12") => `(tactic| fail)
local macro_rules | `(tactic| walk_at "mine R1 13") => `(tactic| fail)
local macro_rules | `(tactic| walk_at "mine R1 14") => `(tactic| fail)
local macro_rules | `(tactic| walk_at "mine R1 15") => `(tactic| fail)
local macro_rules | `(tactic| walk_at "mine R1 16") => `(tactic| fail)
local macro_rules | `(tactic| walk_at "mine R1 17") => `(tactic| fail)
local macro_rules | `(tactic| walk_at "mine R1 18") => `(tactic| fail)
local macro_rules | `(tactic| walk_at "mine R1 19") => `(tactic| fail)
local macro_rules | `(tactic| walk_at "mine R1 20") => `(tactic| fail)
local macro_rules | `(tactic| walk_at "mine R1 21") => `(tactic| fail)
local macro_rules | `(tactic| walk_at "mine R1 22") => `(tactic| fail)
theorem fillK_R1 (P : Params) : hd.heap_1 P = hd.heap_1 P ∧ PySem.Challenge.rw_to0014_01 = PySem.Challenge.rw_to0014_01 := by
  k_fill
  exact ⟨rfl, rfl⟩
local macro_rules | `(tactic| cell_enter) => `(tactic| (refine' enter_plain ?k3 ?k5 ?k6 ?k7 ?k8 ?k9 ?kB ?_ ?c2 ?c3 ?c4 ?c5; (case k3 => k_asm); (case k5 => k_asm); (case k6 => k_is); (case k7 => k_is); (case k8 => omega); (case k9 => exact BindsTo.of_eq rfl); (case c5 => decide); (case kB => exact locs rfl); (case c2 => exact rfl); (case c3 => exact rfl); (case c4 => exact rfl); k_whole; intro L' h' hL' F' N'; (try dsimp only); (try k_fold)))
local macro_rules | `(tactic| ktr_enter) => `(tactic| (refine' enter_cells ?k3 ?k5 ?k6 ?k7 ?k8 ?k9 ?kB ?kD ?_ ?c2 ?c3 ?c4; (case k3 => k_asm); (case k5 => k_asm); (case k6 => k_is); (case k7 => k_is); (case k8 => omega); (case k9 => exact BindsTo.of_eq rfl); (case kB => exact rfl); (case kD => decide +kernel); (case c2 => exact rfl); (case c3 => exact rfl); (case c4 => exact rfl); k_whole; intro L' h' tk' cells' hL' F' N' Y'; k_cells Y'; (try simp only [List.cons_append, List.nil_append] at N'); (try dsimp only); (try k_fold)))
section
local macro_rules | `(tactic| walk_at "exec While Compare cons nil") => `(tactic| (with_reducible show wpAny _ _ (exec _ _) _ _ _; refine Stp.out ?_))
local macro_rules | `(tactic| walk_at "eval ListComp") => `(tactic| (with_reducible show wpAny _ _ (eval _ _) _ _ _; refine Stp.out ?_))
local macro_rules | `(tactic| walk_at "binaryOp Add ref ref") => `(tactic| (k_here; (with_reducible show wpAny _ _ (binaryOp Operator.Add (Value.ref _) (Value.ref _)) _ _ _); k_dflt (refine' add_two ?F ?N ?l ?b ?z ?_; (case F => k_asm); (case N => k_asm); (case l => is_list); (case b => is_list); (case z => (simp only [List.length_append, List.length_replicate, List.length_cons, List.length_nil]; omega))); intro l' h' F' N' l1; (try k_lt l1); (try k_sweep)))
local macro_rules | `(tactic| size_fits) => `(tactic| exact sz_small (by with_reducible assumption))
local macro_rules | `(tactic| walk_at "call builtin:dict.get") => `(tactic| (k_here; (with_reducible show wpAny _ _ (call (Value.builtin "dict.get") _) _ _ _); refine' get77 ?FF ?TT ?SS ?_; (case FF => k_asm); (case TT => with_reducible assumption); (case SS => with_reducible assumption); intro _ _ _))
set_option maxRecDepth 100000 in
set_option maxHeartbeats 8000000 in
theorem read_spec {w : World} {loose : List Str} {mean : ExcName → Option Value} {mg mb : Str → Option Value} (dp un : Nat) (gd : Option (List Code)) (outer : List Env) (s : Shared) (Q E : Value → Shared → Prop)
   (X : (hd.heap_1 w.params).In s.heap) (T : Top vw loose mean mg mb s.heap) (hd : dp + 5 < recursionLimit) (hu : un + 100 < cLine)
   (x : Str) (tx : Tok) (D M : Nat) (hxc : x.cps.toList = List.replicate D 46 ++ List.replicate M 61) (hx : x.length ≤ 1000)
   (hret : ∀ (r : Addr) (vr : List Value) (h' : Heap) (tk' : Nat), (∀ b o, s.heap.get? b = some o → h'.get? b = some o) → s.heap.get? r = none → h'.IsList r vr.toArray → IntsAre vr (rdij D M) → Small vr → Q (.ref r) { s with heap := h', toks := tk' }) :
   wpAny (model PySem.Challenge.rw_to0014_01.row.prog w) (Ar dp un gd outer) (call (.ref 106) [.str x tx]) Q E s := by
  w_top off
  have hds := small77 X
  have hst := tab77 X
  refine wpAny_call ?_
  k_dflt ktr_enter
  k_steps
  refine Stp.mk ?_
  rename Fr _ _ _ _ => kF
  rename News _ _ _ _ => kN
  rename_i L' _ _ hL' op ot _ htx lst _ lst1 _ _ _ _ _ _ hpl hpd
  have htx' : ot.data = .cell (some (.str x tx)) := htx
  clear htx
  refine While_inv (L := L') (fun n m₁ nw => ∃ (p : Nat) (t : Tok) (vs : List Value) (ep : Nat) (o1 : Obj) (u : Option Value) (ns : List Int) (i j : Nat), n = i + j ∧ x.cps.toList.drop p = List.replicate i 46 ++ List.replicate j 61 ∧ p ≤ x.length + 2 ∧ m₁ = (fun y => if y = Str.ofString "size" then u else if y = Str.ofString "numbers" then some (Value.ref lst) else none) ∧ nw = [(lst, listOf vs.toArray ep), (L' + 1 + 1, o1), (L' + 1, ot)] ∧ o1.data = .cell (some (.int (p : Int) t)) ∧ IntsAre vs ns ∧ Small vs ∧ ns.length ≤ p ∧ ns ++ rdij i j = rdij D M) (n₀ := D + M) kF (Mine.News.drop1 kN) ?_ ?_
  · exact ⟨0, _, [], _, _, none, [], D, M, rfl, by simpa using hxc, by omega, by funext y; by_cases hy : y = Str.ofString "size" <;> simp [hy] <;> rfl, rfl, hpd, IntsAre.nil, small_nil, by simp, by simp⟩
  · rintro n m₁ nw h₁ tk₁ F₁ N₁ ⟨p, t, vs, ep, o1, u, ns, i, j, rfl, hij, hp, rfl, rfl, ho1, hvs, hss, hnl, hns⟩
    have hvl : vs.length ≤ 1005 := by have := hvs.length; omega
    k_steps
    · refine Stp.mk ?_
      rename Fr _ _ _ _ => kF1
      rename News _ _ _ _ => kN1
      rename_i hlt l9 h9 ll9
      obtain ⟨wz, hwz⟩ : ∃ wz, wz = [(2 : Int), 3].filter fun k => inTab (Txt.slice x (some (p : Int)) (some ((p : Int) + k))) := ⟨_, rfl⟩
      refine wp_post (Q' := fun v s' => Stp (∃ D h' tk' ys, v = .ref D ∧ s' = { s with heap := h', toks := tk' } ∧ Fr s.heap L' h' (fun y => if y = Str.ofString "size" then u else if y = Str.ofString "numbers" then some (Value.ref lst) else none) ∧
        News s.heap L' h' [(D, LCg.lst ys), (l9, listOf #[Value.int 1 tk] 0), (lst, listOf vs.toArray ep), (L' + 1 + 1, o1), (L' + 1, ot)] ∧ IntsAre ys wz ∧ ys.length ≤ 2 ∧ Off1 D [(l9, listOf #[Value.int 1 tk] 0), (lst, listOf vs.toArray ep), (L' + 1 + 1, o1), (L' + 1, ot)])) ?_ ?_
      · refine ListComp_tup kF1 rfl (by decide) rfl (by decide) rfl ?_
        k_steps
        rename Fr _ _ _ _ => kF2
        rename News _ _ _ _ => kN2
        refine Stp.mk ⟨_, _, _, rfl, rfl, kF2, kN2, ⟨_, .head _, rfl, _, rfl⟩, by simp [sizeLine], fun g => ?_⟩
        refine rest_filter (vs := [_, _]) (zs := [2, 3]) (IntsAre.cons _ _ (IntsAre.cons _ _ IntsAre.nil)) (fun k => inTab (Txt.slice x (some (p : Int)) (some ((p : Int) + k)))) (fun k => k) ⟨_, .head _, rfl, _, rfl⟩ ?_ ?_ ?_
        · intro ii k t' I oI C oC D' m₂ h2 tk2 E' ys hk hNs hm kF3 kN3 hoff hne3
          have hk23 : 2 ≤ k ∧ k ≤ 3 := by
            rcases ii with _ | _ | ii
            · obtain rfl := Option.some.inj hk; decide
            · obtain rfl := Option.some.inj hk; decide
            · simp at hk
          clear kF2 kN2 hk
          k_steps
          rename Fr _ _ _ _ => kF4
          rename News _ _ _ _ => kN4
          exact Stp.mk ⟨in_tab_eq _, Blk.mk kF4 kN4⟩
        · intro ii k t' I oI C oC D' m₂ h2 tk2 E' ys hk hpk hNs hm kF3 kN3 hoff hne3
          clear kF2 kN2 hk
          k_steps
          rename Fr _ _ _ _ => kF4
          rename News _ _ _ _ => kN4
          exact Stp.mk ⟨⟨_, rfl⟩, Blk.mk kF4 kN4⟩
        · intro ys hys D h' tk' kF5 kN5 ho
          refine Stp.mk ⟨D, h', tk', ys, rfl, rfl, kF5, ?_, ?_, ?_, ho.2⟩
          · intro q hq
            rcases List.mem_cons.mp hq with rfl | hq
            · exact kN5 _ (.head _)
            · exact kN5 _ (.tail _ (.tail _ hq))
          · rw [hwz]; simpa using hys
          · rw [hys.length, List.length_map]; exact List.length_filter_le _ [(2 : Int), 3]
      · intro v s' hh
        obtain ⟨D', h', tk', ys, rfl, rfl, kF6, kN6, hys, hyl, hoff⟩ := Stp.out hh
        dsimp only [Off1] at hoff
        obtain ⟨hz1, hz2, hz3, hz4, -⟩ := hoff
        k_steps
        rename_i M' tM _ hM1 hM2 _ _ _ _ _ _ vnum hnum hsmv _ _ on kF7 kN7 hon
        have hlt' : p < x.length := by omega
        obtain ⟨i', j', num, c, hMc, hc1, hc3, hlk, hdrop, hcons, hdec⟩ := turn_pure x p i j hlt' hij wz hwz M' hM1 hM2
        rw [hlk] at hnum hsmv
        have hnum2 : PyProof.V.Flat vnum (.int num) := hnum
        obtain ⟨tn, rfl⟩ := hnum2.int_inv
        have hsmt := hsmv rfl
        subst hMc
        obtain ⟨tq, hon'⟩ : ∃ t, on.data = .cell (some (.int ((p + c : Nat) : Int) t)) := ⟨_, by rw [hon, Int.natCast_add]⟩
        refine WhileStep.intro (n' := i' + j') kF7 (Mine.News.drop1 (Mine.News.drop1 (Mine.News.drop1 kN7))) hdec ?_
        refine ⟨p + c, tq, vs ++ [Value.int num tn], ep + 1, on, some (Value.int (c : Int) tM), ns ++ [num], i', j', rfl, hdrop, by omega, ?_, ?_, hon', intsAre_snoc hvs _ _, small_snoc hss hsmt, ?_, by rw [List.append_assoc, List.singleton_append, hcons, hns]⟩
        · funext y
          by_cases hy : y = Str.ofString "size"
          · simp only [hy, if_true]
          · simp only [hy, if_false]
        · rw [List.push_toArray]
        · rw [List.length_append, List.length_singleton]; omega
    · rename Fr _ _ _ _ => kFe
      rename News _ _ _ _ => kNe
      rename_i hge _
      have hlen : i + j = 0 := by
        have := congrArg List.length hij
        simp only [List.length_drop, Array.length_toList, List.length_append, List.length_replicate] at this
        have hs : x.length = x.cps.size := rfl
        omega
      have hi : i = 0 := by omega
      have hj : j = 0 := by omega
      subst hi hj
      have hns' : ns = rdij D M := by rw [← hns]; simp [rdij]
      refine Lv.mk kFe fun keep => ?_
      exact hret _ _ _ _ keep (kNe _ (.head _)).2.2 (News.isList kNe (.head _)) (hns' ▸ hvs) hss
end
end Mine
end
section
open PySem PySem.W PyProof.Rows PySem.Calls
namespace Mine
local macro_rules | `(tactic| walk_at "mine C1 0") => `(tactic| fail)
local macro_rules | `(tactic| walk_at "mine C1 1") => `(tactic| fail)
local macro_rules | `(tactic| walk_at "mine C1 2") => `(tactic| fail)
local macro_rules | `(tactic| walk_at "mine C1 3") => `(tactic| fail)
local macro_rules | `(tactic| walk_at "mine C1 4") => `(tactic| fail)
local macro_rules | `(tactic| walk_at "mine C1 5") => `(tactic| fail)
local macro_rules | `(tactic| walk_at "mine C1 6") => `(tactic| fail)
local macro_rules | `(tactic| walk_at "mine C1 7") => `(tactic| fail)
local macro_rules | `(tactic| walk_at "mine C1 8") => `(tactic| fail)
local macro_rules | `(tactic| walk_at "mine C1 9") => `(tactic| fail)
local macro_rules | `(tactic| walk_at "mine C1 10") => `(tactic| fail)
local macro_rules | `(tactic| walk_at "mine C1 11") => `(tactic| fail)
local macro_rules | `(tactic| walk_at "mine C1 12") => `(tactic| fail)
local macro_rules | `(tactic| walk_at "mine C1 13") => `(tactic| fail)
local macro_rules | `(tactic| walk_at "mine C1 14") => `(tactic| fail)
local macro_rules | `(tactic| walk_at "mine C1 15") => `(tactic| fail)
local macro_rules | `(tactic| walk_at "mine C1 16") => `(tactic| fail)
local macro_rules | `(tactic| walk_at "mine C1 17") => `(tactic| fail)
local macro_rules | `(tactic| walk_at "mine C1 18") => `(tactic| fail)
local macro_rules | `(tactic| walk_at "mine C1 19") => `(tactic| fail)
local macro_rules | `(tactic| walk_at "mine C1 20") => `(tactic| fail)
local macro_rules | `(tactic| walk_at "mine C1 21") => `(tactic| fail)
local macro_rules | `(tactic| walk_at "mine C1 22") => `(tactic| fail)
local macro_rules | `(tactic| walk_at "mine C1 23") => `(tactic| fail)
local macro_rules | `(tactic| walk_at "mine C1 24") => `(tactic| fail)
local macro_rules | `(tactic| walk_at "mine C1 25") => `(tactic| fail)
local macro_rules | `(tactic| walk_at "mine C1 26") => `(tactic| fail)
theorem fillK (P : Params) : hd.heap_1 P = hd.heap_1 P ∧ PySem.Challenge.rw_to0014_01 = PySem.Challenge.rw_to0014_01 := by
  k_fill
  exact ⟨rfl, rfl⟩
local macro_rules | `(tactic| cell_enter) => `(tactic| (refine' enter_plain ?k3 ?k5 ?k6 ?k7 ?k8 ?k9 ?kB ?_ ?c2 ?c3 ?c4 ?c5; (case k3 => k_asm); (case k5 => k_asm); (case k6 => k_is); (case k7 => k_is); (case k8 => omega); (case k9 => exact BindsTo.of_eq rfl); (case c5 => decide); (case kB => exact locs rfl); (case c2 => exact rfl); (case c3 => exact rfl); (case c4 => exact rfl); k_whole; intro L' h' hL' F' N'; (try dsimp only); (try k_fold)))
local macro_rules | `(tactic| ktr_enter) => `(tactic| (refine' enter_cells ?k3 ?k5 ?k6 ?k7 ?k8 ?k9 ?kB ?kD ?_ ?c2 ?c3 ?c4; (case k3 => k_asm); (case k5 => k_asm); (case k6 => k_is); (case k7 => k_is); (case k8 => omega); (case k9 => exact BindsTo.of_eq rfl); (case kB => exact rfl); (case kD => decide +kernel); (case c2 => exact rfl); (case c3 => exact rfl); (case c4 => exact rfl); k_whole; intro L' h' tk' cells' hL' F' N' Y'; k_cells Y'; (try simp only [List.cons_append, List.nil_append] at N'); (try dsimp only); (try k_fold)))
section
local macro_rules | `(tactic| walk_at "exec For Name Name") => `(tactic| (with_reducible show wpAny _ _ (exec _ _) _ _ _; refine Stp.out ?_))
set_option maxRecDepth 100000 in
set_option maxHeartbeats 8000000 in
theorem count_spec {w : World} {loose : List Str} {mean : ExcName → Option Value} {mg mb : Str → Option Value} (dp un : Nat) (gd : Option (List Code)) (outer : List Env) (s : Shared) (Q E : Value → Shared → Prop)
   (X : (hd.heap_1 w.params).In s.heap) (T : Top vw loose mean mg mb s.heap) (hd : dp + 5 < recursionLimit) (hu : un + 100 < cLine)
   (c : Addr) (vs : List Value) (ns : List Int) (b : Int) (tb : Tok) (hc : s.heap.IsList c vs.toArray) (hv : IntsAre vs ns) (hn : ns.length ≤ 1000) (hb : smallInt b = true) (hsm : Small vs) (htb : 600 ≤ tb)
   (hret : ∀ (t : Tok) (h' : Heap) (tk' : Nat), (∀ b o, s.heap.get? b = some o → h'.get? b = some o) → Q (.int (ns.count b) t) { s with heap := h', toks := tk' }) :
   wpAny (model PySem.Challenge.rw_to0014_01.row.prog w) (Ar dp un gd outer) (call (.ref 52) [.ref c, .int b tb]) Q E s := by
  w_top off
  refine wpAny_call ?_
  k_dflt cell_enter
  k_steps
  refine Stp.mk ?_
  rename Fr _ _ _ _ => kF
  rename News _ _ _ _ => kN
  rename_i L' _ _ _
  obtain ⟨t0, kF⟩ : ∃ t0, Fr s.heap L' _ (fun y => if y = Str.ofString "i" then none else if y = Str.ofString "count" then some (Value.int 0 t0) else if y = Str.ofString "a" then some (Value.ref c) else if y = Str.ofString "b" then some (Value.int b tb) else none) := ⟨_, Mine.Fr.eqm kF fun y => by
    by_cases h1 : y = Str.ofString "i"
    · subst h1; rfl
    · by_cases h2 : y = Str.ofString "count"
      · subst h2; rfl
      · by_cases h3 : y = Str.ofString "a"
        · subst h3; rfl
        · by_cases h4 : y = Str.ofString "b"
          · subst h4; rfl
          · simp only [h1, h2, h3, h4, if_false]
            refine lookup_no (l := [(Str.ofString "b", Value.int b tb), (Str.ofString "a", Value.ref c)]) fun kv hkv => ?_
            rcases List.mem_cons.mp hkv with rfl | hkv
            · exact h4
            · rcases List.mem_cons.mp hkv with rfl | hkv
              · exact h3
              · cases hkv⟩
  refine For_list (L := L') (news := []) rfl
    (fun i m₁ nw => ∃ (u : Option Value) (t : Tok), nw = [] ∧ m₁ = fun y => if y = Str.ofString "i" then u else if y = Str.ofString "count" then some (Value.int (((ns.take i).count b : Nat) : Int) t) else if y = Str.ofString "a" then some (Value.ref c) else if y = Str.ofString "b" then some (Value.int b tb) else none)
    rfl rfl rfl hc ⟨none, t0, rfl, rfl⟩ ?_ ?_ ?_
  · k_steps
    rename Fr _ _ _ _ => kF1
    rename News _ _ _ _ => kN1
    exact Stp.mk ⟨_, _, rfl, rfl, kF1, kN1⟩
  · rintro i v m₁ nw h₁ tk₁ I oI hi ⟨u, t, rfl, rfl⟩ htk hoff hLI F₁ N₁
    have hlt : i < ns.length := by rw [← hv.length]; have := (Array.getElem?_eq_some_iff.mp hi).1; simpa using this
    obtain ⟨ti, hti⟩ := hv.get i ns[i] (by simp [hlt])
    have hvi : v = .int ns[i] ti := by
      have : vs[i]? = some v := by simpa using hi
      rw [hti] at this; exact (Option.some.inj this).symm
    subst hvi
    obtain ⟨i2, t2, he, ht0, ht6⟩ := hsm _ (List.mem_of_getElem? hti)
    cases he
    clear kF kN
    k_steps
    refine is_int hb ht0 (Nat.lt_of_lt_of_le (by decide : 0 < 600) htb) (Nat.ne_of_lt (Nat.lt_of_lt_of_le ht6 htb)) ?_
    have htake : ns.take (i + 1) = ns.take i ++ [ns[i]] := by rw [List.take_add_one, List.getElem?_eq_getElem hlt]; rfl
    have hcount : (ns.take (i + 1)).count b = (ns.take i).count b + (if ns[i] == b then 1 else 0) := by rw [htake, List.count_append, List.count_singleton]
    cases hp : (ns[i] == b)
    all_goals rw [hp] at hcount
    · replace hcount : (ns.take (i + 1)).count b = (ns.take i).count b := hcount
      k_steps
      refine TurnEnd.intro (m₂ := fun y => if y = Str.ofString "i" then some (Value.int ns[i] ti) else if y = Str.ofString "count" then some (Value.int (((ns.take (i + 1)).count b : Nat) : Int) t) else if y = Str.ofString "a" then some (Value.ref c) else if y = Str.ofString "b" then some (Value.int b tb) else none) (Mine.Fr.eqm F₁ fun y => ?_) N₁ hoff ⟨_, _, rfl, rfl⟩
      rw [hcount]
      by_cases h1 : y = Str.ofString "i"
      · simp only [h1, if_true]
      · simp only [h1, if_false]
    · replace hcount : (ns.take (i + 1)).count b = (ns.take i).count b + 1 := hcount
      k_steps
      rename Fr _ _ _ _ => kF2
      rename News _ _ _ _ => kN2
      obtain ⟨t2, kF2⟩ : ∃ t2, Fr s.heap L' _ (fun y => if y = Str.ofString "i" then some (Value.int ns[i] ti) else if y = Str.ofString "count" then some (Value.int (((ns.take (i + 1)).count b : Nat) : Int) t2) else if y = Str.ofString "a" then some (Value.ref c) else if y = Str.ofString "b" then some (Value.int b tb) else none) := ⟨_, Mine.Fr.eqm kF2 fun y => by
        rw [hcount, Int.natCast_add]
        by_cases h1 : y = Str.ofString "i"
        · subst h1; rfl
        · by_cases h2 : y = Str.ofString "count"
          · subst h2; rfl
          · simp only [h1, h2, if_false]⟩
      exact TurnEnd.intro kF2 kN2 hoff ⟨_, _, rfl, rfl⟩
  · rintro h' tk' m' nw htk ⟨u, t, rfl, rfl⟩ F N
    have hfull : ns.take vs.toArray.size = ns := List.take_of_length_le (by rw [List.size_toArray, hv.length]; exact Nat.le_refl _)
    rw [hfull] at F
    clear kF kN
    k_steps
    refine Lv.mk F fun keep => ?_
    exact hret _ _ _ keep
end
end Mine
end
section
open PySem PySem.W PyProof.Rows PySem.Calls
namespace Mine
local macro_rules | `(tactic| walk_at "mine A1 0") => `(tactic| fail)
local macro_rules | `(tactic| walk_at "mine A1 1") => `(tactic| fail)
local macro_rules | `(tactic| walk_at "mine A1 2") => `(tactic| fail)
local macro_rules | `(tactic| walk_at "mine A1 3") => `(tactic| fail)
local macro_rules | `(tactic| walk_at "mine A1 4") => `(tactic| fail)
local macro_rules | `(tactic| walk_at "mine A1 5") => `(tactic| fail)
local macro_rules | `(tactic| walk_at "mine A1 6") => `(tactic| fail)
local macro_rules | `(tactic| walk_at "mine A1 7") => `(tactic| fail)
local macro_rules | `(tactic| walk_at "mine A1 8") => `(tactic| fail)
local macro_rules | `(tactic| walk_at "mine A1 9") => `(tactic| fail)
local macro_rules | `(tactic| walk_at "mine A1 10") => `(tactic| fail)
local macro_rules | `(tactic| walk_at "mine A1 11") => `(tactic| fail)
local macro_rules | `(tactic| walk_at "mine A1 12") => `(tactic| fail)
local macro_rules | `(tactic| walk_at "mine A1 13") => `(tactic| fail)
local macro_rules | `(tactic| walk_at "mine A1 14") => `(tactic| fail)
local macro_rules | `(tactic| walk_at "mine A1 15") => `(tactic| fail)
local macro_rules | `(tactic| walk_at "mine A1 16") => `(tactic| fail)
local macro_rules | `(tactic| walk_at "mine A1 17") => `(tactic| fail)
local macro_rules | `(tactic| walk_at "mine A1 18") => `(tactic| fail)
local macro_rules | `(tactic| walk_at "mine A1 19") => `(tactic| fail)
local macro_rules | `(tactic| walk_at "mine A1 20") => `(tactic| fail)
local macro_rules | `(tactic| walk_at "mine A1 21") => `(tactic| fail)
local macro_rules | `(tactic| walk_at "mine A1 22") => `(tactic| fail)
local macro_rules | `(tactic| walk_at "mine A1 23") => `(tactic| fail)
local macro_rules | `(tactic| walk_at "mine A1 24") => `(tactic| fail)
local macro_rules | `(tactic| walk_at "mine A1 25") => `(tactic| fail)
local macro_rules | `(tactic| walk_at "mine A1 26") => `(tactic| fail)
local macro_rules | `(tactic| walk_at "mine A1 27") => `(tactic| fail)
local macro_rules | `(tactic| walk_at "mine A1 28") => `(tactic| fail)
theorem fillK1 (P : Params) : hd.heap_1 P = hd.heap_1 P ∧ PySem.Challenge.rw_to0014_01 = PySem.Challenge.rw_to0014_01 := by
  k_fill
  exact ⟨rfl, rfl⟩
local macro_rules | `(tactic| cell_enter) => `(tactic| (refine' enter_plain ?k3 ?k5 ?k6 ?k7 ?k8 ?k9 ?kB ?_ ?c2 ?c3 ?c4 ?c5; (case k3 => k_asm); (case k5 => k_asm); (case k6 => k_is); (case k7 => k_is); (case k8 => omega); (case k9 => exact BindsTo.of_eq rfl); (case c5 => decide); (case kB => exact locs rfl); (case c2 => exact rfl); (case c3 => exact rfl); (case c4 => exact rfl); k_whole; intro L' h' hL' F' N'; (try dsimp only); (try k_fold)))
local macro_rules | `(tactic| ktr_enter) => `(tactic| (refine' enter_cells ?k3 ?k5 ?k6 ?k7 ?k8 ?k9 ?kB ?kD ?_ ?c2 ?c3 ?c4; (case k3 => k_asm); (case k5 => k_asm); (case k6 => k_is); (case k7 => k_is); (case k8 => omega); (case k9 => exact BindsTo.of_eq rfl); (case kB => exact rfl); (case kD => decide +kernel); (case c2 => exact rfl); (case c3 => exact rfl); (case c4 => exact rfl); k_whole; intro L' h' tk' cells' hL' F' N' Y'; k_cells Y'; (try simp only [List.cons_append, List.nil_append] at N'); (try dsimp only); (try k_fold)))
section
set_option maxRecDepth 100000 in
set_option maxHeartbeats 8000000 in
theorem neg_spec {w : World} {loose : List Str} {mean : ExcName → Option Value} {mg mb : Str → Option Value} (dp un : Nat) (gd : Option (List Code)) (outer : List Env) (s : Shared) (Q E : Value → Shared → Prop)
   (X : (hd.heap_1 w.params).In s.heap) (T : Top vw loose mean mg mb s.heap) (hd : dp + 5 < recursionLimit) (hu : un + 100 < cLine)
   (a : Int) (ta : Tok)
   (hret : ∀ (t : Tok) (h' : Heap) (tk' : Nat), (∀ b o, s.heap.get? b = some o → h'.get? b = some o) → Q (.int (-a) t) { s with heap := h', toks := tk' }) :
   wpAny (model PySem.Challenge.rw_to0014_01.row.prog w) (Ar dp un gd outer) (call (.ref 45) [.int a ta]) Q E s := by
  w_top off
  refine wpAny_call ?_
  k_dflt cell_enter
  k_steps
  rename Fr _ _ _ _ => kF
  refine Lv.mk kF fun keep => ?_
  exact hret _ _ _ keep
set_option maxRecDepth 100000 in
set_option maxHeartbeats 8000000 in
theorem add_spec {w : World} {loose : List Str} {mean : ExcName → Option Value} {mg mb : Str → Option Value} (dp un : Nat) (gd : Option (List Code)) (outer : List Env) (s : Shared) (Q E : Value → Shared → Prop)
   (X : (hd.heap_1 w.params).In s.heap) (T : Top vw loose mean mg mb s.heap) (hd : dp + 5 < recursionLimit) (hu : un + 100 < cLine)
   (a b : Int) (ta tb : Tok)
   (hret : ∀ (t : Tok) (h' : Heap) (tk' : Nat), (∀ b o, s.heap.get? b = some o → h'.get? b = some o) → Q (.int (a + b) t) { s with heap := h', toks := tk' }) :
   wpAny (model PySem.Challenge.rw_to0014_01.row.prog w) (Ar dp un gd outer) (call (.ref 38) [.int a ta, .int b tb]) Q E s := by
  w_top off
  refine wpAny_call ?_
  k_dflt cell_enter
  k_steps
  rename Fr _ _ _ _ => kF
  refine Lv.mk kF fun keep => ?_
  exact hret _ _ _ keep
end
end Mine
end
section
open PySem PySem.W PyProof.Rows PySem.Calls
namespace Mine
local macro_rules | `(tactic| walk_at "mine S3 0") => `(tactic| fail)
local macro_rules | `(tactic| walk_at "mine S3 1") => `(tactic| fail)
local macro_rules | `(tactic| walk_at "mine S3 2") => `(tactic| fail)
local macro_rules | `(tactic| walk_at "mine S3 3") => `(tactic| fail)
local macro_rules | `(tactic| walk_at "mine S3 4") => `(tactic| fail)
local macro_rules | `(tactic| walk_at "mine S3 5") => `(tactic| fail)
local macro_rules | `(tactic| walk_at "mine S3 6") => `(tactic| fail)
local macro_rules | `(tactic| walk_at "mine S3 7") => `(tactic| fail)
local macro_rules | `(tactic| walk_at "mine S3 8") => `(tactic| fail)
local macro_rules | `(tactic| walk_at "mine S3 9") => `(tactic| fail)
local macro_rules | `(tactic| walk_at "mine S3 10") => `(tactic| fail)
local macro_rules | `(tactic| walk_at "mine S3 11") => `(tactic| fail)
local macro_rules | `(tactic| walk_at "mine S3 12") => `(tactic| fail)
local macro_rules | `(tactic| walk_at "mine S3 13") => `(tactic| fail)
local macro_rules | `(tactic| walk_at "mine S3 14") => `(tactic| fail)
local macro_rules | `(tactic| walk_at "mine S3 15") => `(tactic| fail)
local macro_rules | `(tactic| walk_at "mine S3 16") => `(tactic| fail)
local macro_rules | `(tactic| walk_at "mine S3 17") => `(tactic| fail)
local macro_rules | `(tactic| walk_at "mine S3 18") => `(tactic| fail)
local macro_rules | `(tactic| walk_at "mine S3 19") => `(tactic| fail)
local macro_rules | `(tactic| walk_at "mine S3 20") => `(tactic| fail)
local macro_rules | `(tactic| walk_at "mine S3 21") => `(tactic| fail)
local macro_rules | `(tactic| walk_at "mine S3 22") => `(tactic| fail)
local macro_rules | `(tactic| walk_at "mine S3 23") => `(tactic| fail)
local macro_rules | `(tactic| walk_at "mine S3 24") => `(tactic| fail)
local macro_rules | `(tactic| walk_at "mine S3 25") => `(tactic| fail)
local macro_rules | `(tactic| walk_at "mine S3 26") => `(tactic| fail)
theorem fillK3 (P : Params) : hd.heap_1 P = hd.heap_1 P ∧ PySem.Challenge.rw_to0014_01 = PySem.Challenge.rw_to0014_01 := by
  k_fill
  exact ⟨rfl, rfl⟩
local macro_rules | `(tactic| cell_enter) => `(tactic| (refine' enter_plain ?k3 ?k5 ?k6 ?k7 ?k8 ?k9 ?kB ?_ ?c2 ?c3 ?c4 ?c5; (case k3 => k_asm); (case k5 => k_asm); (case k6 => k_is); (case k7 => k_is); (case k8 => omega); (case k9 => exact BindsTo.of_eq rfl); (case c5 => decide); (case kB => exact locs rfl); (case c2 => exact rfl); (case c3 => exact rfl); (case c4 => exact rfl); k_whole; intro L' h' hL' F' N'; (try dsimp only); (try k_fold)))
local macro_rules | `(tactic| ktr_enter) => `(tactic| (refine' enter_cells ?k3 ?k5 ?k6 ?k7 ?k8 ?k9 ?kB ?kD ?_ ?c2 ?c3 ?c4; (case k3 => k_asm); (case k5 => k_asm); (case k6 => k_is); (case k7 => k_is); (case k8 => omega); (case k9 => exact BindsTo.of_eq rfl); (case kB => exact rfl); (case kD => decide +kernel); (case c2 => exact rfl); (case c3 => exact rfl); (case c4 => exact rfl); k_whole; intro L' h' tk' cells' hL' F' N' Y'; k_cells Y'; (try simp only [List.cons_append, List.nil_append] at N'); (try dsimp only); (try k_fold)))
def RowsAre (h : Heap) : List Value → List (List Int) → Prop
  | [], [] => True
  | v :: vs, ns :: nss => (∃ a ws, v = .ref a ∧ h.IsList a ws.toArray ∧ IntsAre ws ns ∧ Small ws ∧ ns.length ≤ 1000) ∧ RowsAre h vs nss
  | _, _ => False
def s3 (σ : Int × Int × Int) (ns : List Int) : Int × Int × Int :=
  let d : Int := if ns.count 22 = 1 then -1 else 1
  if ns.count 23 = 0 then (σ.1 + d, σ.2.1, σ.2.2) else if ns.count 23 = 1 then (σ.1, σ.2.1 + d, σ.2.2) else (σ.1, σ.2.1, σ.2.2 + d)
theorem rowsAre_get {h : Heap} : ∀ {vs : List Value} {nss : List (List Int)}, RowsAre h vs nss → ∀ (i : Nat) (v : Value), vs[i]? = some v → ∃ ns a ws, nss[i]? = some ns ∧ v = .ref a ∧ h.IsList a ws.toArray ∧ IntsAre ws ns ∧ Small ws ∧ ns.length ≤ 1000
  | [], [], _, i, v, e => by simp at e
  | v :: vs, ns :: nss, x, 0, u, e => by
    obtain ⟨⟨a, ws, h1, h2⟩, _⟩ := x
    have : v = u := Option.some.inj e
    exact ⟨ns, a, ws, rfl, this ▸ h1, h2⟩
  | _ :: vs, _ :: nss, x, i + 1, u, e => by
    obtain ⟨ns, a, ws, h1, h2⟩ := rowsAre_get x.2 i u e
    exact ⟨ns, a, ws, h1, h2⟩
  | [], _ :: _, x, _, _, _ => x.elim
  | _ :: _, [], x, _, _, _ => x.elim
theorem rowsAre_len {h : Heap} : ∀ {vs : List Value} {nss : List (List Int)}, RowsAre h vs nss → vs.length = nss.length
  | [], [], _ => rfl
  | _ :: vs, _ :: nss, x => by rw [List.length_cons, List.length_cons, rowsAre_len x.2]
  | [], _ :: _, x => x.elim
  | _ :: _, [], x => x.elim
section
local macro_rules | `(tactic| walk_at "call ref") => `(tactic| ((first | (with_reducible show wpAny _ _ (call (Value.ref 52) _) _ _ _) | (with_reducible show wpAny _ _ (call (Value.ref 45) _) _ _ _) | (with_reducible show wpAny _ _ (call (Value.ref 38) _) _ _ _)); refine Stp.out ?_))
local macro_rules | `(tactic| walk_at "exec For Name Name") => `(tactic| (with_reducible show wpAny _ _ (exec _ _) _ _ _; refine Stp.out ?_))
local macro_rules | `(tactic| walk_at "execs cons") => `(tactic| ((with_reducible refine wpAny_execs_cons ?_); try dsimp only))
set_option maxRecDepth 100000 in
set_option maxHeartbeats 8000000 in
theorem sums_spec {w : World} {loose : List Str} {mean : ExcName → Option Value} {mg mb : Str → Option Value} (dp un : Nat) (gd : Option (List Code)) (outer : List Env) (s : Shared) (Q E : Value → Shared → Prop)
   (X : (hd.heap_1 w.params).In s.heap) (T : Top vw loose mean mg mb s.heap) (hd : dp + 20 < recursionLimit) (hu : un + 200 < cLine)
   (c : Addr) (vs : List Value) (nss : List (List Int)) (hc : s.heap.IsList c vs.toArray) (hv : RowsAre s.heap vs nss) (hn : nss.length ≤ 1000) (h2 : ∀ ns ∈ nss, ns.count 23 ≤ 2) (hT : 600 ≤ s.toks)
   (hret : ∀ (r : Addr) (vr : List Value) (h' : Heap) (tk' : Nat), (∀ b o, s.heap.get? b = some o → h'.get? b = some o) → s.heap.get? r = none → h'.IsList r vr.toArray → IntsAre vr (let σ := nss.foldl s3 (0, 0, 0); [σ.1, σ.2.1, σ.2.2]) → Q (.ref r) { s with heap := h', toks := tk' }) :
   wpAny (model PySem.Challenge.rw_to0014_01.row.prog w) (Ar dp un gd outer) (call (.ref 120) [.ref c]) Q E s := by
  w_top off
  refine wpAny_call ?_
  k_dflt cell_enter
  k_steps
  refine Stp.mk ?_
  rename Fr _ _ _ _ => kF
  rename News _ _ _ _ => kN
  rename_i L' _ _ SS _ _ _
  obtain ⟨t1, t2, t3, kN⟩ : ∃ t1 t2 t3, News s.heap L' _ [(SS, listOf #[Value.int 0 t1, Value.int 0 t2, Value.int 0 t3] 0)] := ⟨_, _, _, kN⟩
  have kF := Mine.Fr.eqm (m' := fun y => if y = Str.ofString "numbers" then none else if y = Str.ofString "left" then none else if y = Str.ofString "sums" then some (Value.ref SS) else if y = Str.ofString "readings" then some (Value.ref c) else none) kF fun y => by
    by_cases h1 : y = Str.ofString "numbers"
    · subst h1; rfl
    · by_cases h2 : y = Str.ofString "left"
      · subst h2; rfl
      · by_cases h3 : y = Str.ofString "sums"
        · subst h3; rfl
        · by_cases h4 : y = Str.ofString "readings"
          · subst h4; rfl
          · simp only [h1, h2, h3, h4, if_false]
            refine lookup_no (l := [(Str.ofString "readings", Value.ref c)]) fun kv hkv => ?_
            rcases List.mem_cons.mp hkv with rfl | hkv
            · exact h4
            · cases hkv
  refine For_list (L := L') (news := [(SS, listOf #[Value.int 0 t1, Value.int 0 t2, Value.int 0 t3] 0)]) rfl
    (fun i m₁ nw => ∃ (u1 u2 : Option Value) (a b d : Int) (ta tb td : Tok) (ep : Nat), nw = [(SS, listOf #[Value.int a ta, Value.int b tb, Value.int d td] ep)] ∧ (nss.take i).foldl s3 (0, 0, 0) = (a, b, d) ∧
      m₁ = fun y => if y = Str.ofString "numbers" then u1 else if y = Str.ofString "left" then u2 else if y = Str.ofString "sums" then some (Value.ref SS) else if y = Str.ofString "readings" then some (Value.ref c) else none)
    rfl rfl rfl hc ⟨none, none, 0, 0, 0, t1, t2, t3, 0, rfl, rfl, rfl⟩ ?_ ?_ ?_
  · k_steps
    rename Fr _ _ _ _ => kF1
    rename News _ _ _ _ => kN1
    exact Stp.mk ⟨_, _, rfl, rfl, kF1, kN1⟩
  · rintro i v m₁ nw h₁ tk₁ I oI hi ⟨u1, u2, a, b, d, ta, tb, td, ep, rfl, hfold, rfl⟩ htk hoff hLI F₁ N₁
    obtain ⟨ns, ra, ws, hns, rfl, hl, hw, hsm, hnl⟩ := rowsAre_get hv i v (by simpa using hi)
    dsimp only at htk
    have hns2 := h2 ns (List.mem_of_getElem? hns)
    clear kF kN
    have h6 : (600 : Nat) ≤ tk₁ := by omega
    have hfoldS : (nss.take (i + 1)).foldl s3 (0, 0, 0) = s3 (a, b, d) ns := by rw [List.take_add_one, hns, List.foldl_append, hfold]; rfl
    have hIS : @Ne Nat SS I := hoff.1
    k_steps
    refine Stp.mk (wpAny_toks (count_spec (dp + 1) (un + 3) gd _ _ _ _ (fun a o e => F₁.keep _ _ (X a o e)) (T.keeps F₁.keep) (by omega) (by omega) ra ws ns 23 tk₁ (hl.at fun o e => F₁.keep _ _ e) hw hnl rfl hsm h6 fun t5 h5 tk5 keep5 => ?_))
    intro htk5
    dsimp only at htk5
    have F5 := F₁.keeps keep5
    have N5 := N₁.grown keep5
    clear F₁ N₁
    have hc3 : ns.count 23 = 0 ∨ ns.count 23 = 1 ∨ ns.count 23 = 2 := by omega
    rcases hc3 with hc3 | hc3 | hc3
    all_goals rw [hc3]
    all_goals (first | rw [show ((0 : Nat) : Int) = 0 from rfl] | rw [show ((1 : Nat) : Int) = 1 from rfl] | rw [show ((2 : Nat) : Int) = 2 from rfl])
    all_goals k_steps
    all_goals rename Fr _ _ _ _ => F6
    all_goals rename News _ _ _ _ => N6
    all_goals refine Stp.mk (wpAny_toks (count_spec (dp + 1) (un + 3) gd _ _ _ _ (fun a o e => F6.keep _ _ (X a o e)) (T.keeps F6.keep) (by omega) (by omega) ra ws ns 22 _ (hl.at fun o e => F6.keep _ _ e) hw hnl rfl hsm (show (600 : Nat) ≤ _ by omega) fun t7 h7 tk7 keep7 => ?_))
    all_goals intro htk7
    all_goals dsimp only at htk7
    all_goals have F7 := F6.keeps keep7
    all_goals have N7 := N6.grown keep7
    all_goals clear F6 N6
    all_goals k_steps
    all_goals (first
      | (refine Stp.mk (neg_spec (dp + 1) (un + 3) gd _ _ _ _ (fun a o e => F7.keep _ _ (X a o e)) (T.keeps F7.keep) (by omega) (by omega) 1 _ fun t8 h8 tk8 keep8 => ?_); have F8 := F7.keeps keep8; have N8 := N7.grown keep8; clear F7 N7; k_steps)
      | (have F8 := F7; have N8 := N7; clear F7 N7))
    all_goals refine Stp.mk (add_spec (dp + 1) (un + 3) gd _ _ _ _ (fun a o e => F8.keep _ _ (X a o e)) (T.keeps F8.keep) (by omega) (by omega) _ _ _ _ fun t9 h9 tk9 keep9 => ?_)
    all_goals have F9 := F8.keeps keep9
    all_goals have N9 := N8.grown keep9
    all_goals clear F8 N8
    all_goals k_steps
    all_goals rename Fr _ _ _ _ => FF
    all_goals rename News _ _ _ _ => NN
    · have h22 : ns.count 22 = 1 := by omega
      refine TurnEnd.intro (m₂ := fun y => if y = Str.ofString "numbers" then some (Value.ref ra) else if y = Str.ofString "left" then some (Value.int 0 t5) else if y = Str.ofString "sums" then some (Value.ref SS) else if y = Str.ofString "readings" then some (Value.ref c) else none) (Mine.Fr.eqm FF fun y => ?_) NN ⟨hIS, trivial⟩ ⟨_, _, _, _, _, _, _, _, _, rfl, ?_, rfl⟩
      · by_cases h1 : y = Str.ofString "left"
        · subst h1; rfl
        · by_cases h2 : y = Str.ofString "numbers"
          · subst h2; rfl
          · simp only [h1, h2, if_false]
      · rw [hfoldS]; simp [s3, hc3, h22]
    · have h22 : ¬ ns.count 22 = 1 := by omega
      refine TurnEnd.intro (m₂ := fun y => if y = Str.ofString "numbers" then some (Value.ref ra) else if y = Str.ofString "left" then some (Value.int 0 t5) else if y = Str.ofString "sums" then some (Value.ref SS) else if y = Str.ofString "readings" then some (Value.ref c) else none) (Mine.Fr.eqm FF fun y => ?_) NN ⟨hIS, trivial⟩ ⟨_, _, _, _, _, _, _, _, _, rfl, ?_, rfl⟩
      · by_cases h1 : y = Str.ofString "left"
        · subst h1; rfl
        · by_cases h2 : y = Str.ofString "numbers"
          · subst h2; rfl
          · simp only [h1, h2, if_false]
      · rw [hfoldS]; simp [s3, hc3, h22]
    · have h22 : ns.count 22 = 1 := by omega
      refine TurnEnd.intro (m₂ := fun y => if y = Str.ofString "numbers" then some (Value.ref ra) else if y = Str.ofString "left" then some (Value.int 1 t5) else if y = Str.ofString "sums" then some (Value.ref SS) else if y = Str.ofString "readings" then some (Value.ref c) else none) (Mine.Fr.eqm FF fun y => ?_) NN ⟨hIS, trivial⟩ ⟨_, _, _, _, _, _, _, _, _, rfl, ?_, rfl⟩
      · by_cases h1 : y = Str.ofString "left"
        · subst h1; rfl
        · by_cases h2 : y = Str.ofString "numbers"
          · subst h2; rfl
          · simp only [h1, h2, if_false]
      · rw [hfoldS]; simp [s3, hc3, h22]
    · have h22 : ¬ ns.count 22 = 1 := by omega
      refine TurnEnd.intro (m₂ := fun y => if y = Str.ofString "numbers" then some (Value.ref ra) else if y = Str.ofString "left" then some (Value.int 1 t5) else if y = Str.ofString "sums" then some (Value.ref SS) else if y = Str.ofString "readings" then some (Value.ref c) else none) (Mine.Fr.eqm FF fun y => ?_) NN ⟨hIS, trivial⟩ ⟨_, _, _, _, _, _, _, _, _, rfl, ?_, rfl⟩
      · by_cases h1 : y = Str.ofString "left"
        · subst h1; rfl
        · by_cases h2 : y = Str.ofString "numbers"
          · subst h2; rfl
          · simp only [h1, h2, if_false]
      · rw [hfoldS]; simp [s3, hc3, h22]
    · have h22 : ns.count 22 = 1 := by omega
      refine TurnEnd.intro (m₂ := fun y => if y = Str.ofString "numbers" then some (Value.ref ra) else if y = Str.ofString "left" then some (Value.int 2 t5) else if y = Str.ofString "sums" then some (Value.ref SS) else if y = Str.ofString "readings" then some (Value.ref c) else none) (Mine.Fr.eqm FF fun y => ?_) NN ⟨hIS, trivial⟩ ⟨_, _, _, _, _, _, _, _, _, rfl, ?_, rfl⟩
      · by_cases h1 : y = Str.ofString "left"
        · subst h1; rfl
        · by_cases h2 : y = Str.ofString "numbers"
          · subst h2; rfl
          · simp only [h1, h2, if_false]
      · rw [hfoldS]; simp [s3, hc3, h22]
    · have h22 : ¬ ns.count 22 = 1 := by omega
      refine TurnEnd.intro (m₂ := fun y => if y = Str.ofString "numbers" then some (Value.ref ra) else if y = Str.ofString "left" then some (Value.int 2 t5) else if y = Str.ofString "sums" then some (Value.ref SS) else if y = Str.ofString "readings" then some (Value.ref c) else none) (Mine.Fr.eqm FF fun y => ?_) NN ⟨hIS, trivial⟩ ⟨_, _, _, _, _, _, _, _, _, rfl, ?_, rfl⟩
      · by_cases h1 : y = Str.ofString "left"
        · subst h1; rfl
        · by_cases h2 : y = Str.ofString "numbers"
          · subst h2; rfl
          · simp only [h1, h2, if_false]
      · rw [hfoldS]; simp [s3, hc3, h22]
  · rintro h' tk' m' nw htk ⟨u1, u2, a, b, d, ta, tb, td, ep, rfl, hfold, rfl⟩ F N
    have hfull : nss.take vs.toArray.size = nss := List.take_of_length_le (by rw [List.size_toArray, rowsAre_len hv]; exact Nat.le_refl _)
    rw [hfull] at hfold
    clear kF kN
    k_steps
    rename News _ _ _ _ => NN
    refine Lv.mk F fun keep => ?_
    refine hret _ [Value.int a ta, Value.int b tb, Value.int d td] _ _ keep (NN _ (.head _)).2.2 (News.isList NN (.head _)) ?_
    rw [hfold]
    exact IntsAre.cons _ _ (IntsAre.cons _ _ (IntsAre.cons _ _ IntsAre.nil))
end
end Mine
end
section
open PySem PySem.W PyProof.Rows PySem.Calls
namespace Mine
local macro_rules | `(tactic| walk_at "mine Qd 0") => `(tactic| fail)
local macro_rules | `(tactic| walk_at "mine Qd 1") => `(tactic| fail)
local macro_rules | `(tactic| walk_at "mine Qd 2") => `(tactic| fail)
local macro_rules | `(tactic| walk_at "mine Qd 3") => `(tactic| fail)
local macro_rules | `(tactic| walk_at "mine Qd 4") => `(tactic| fail)
local macro_rules | `(tactic| walk_at "mine Qd 5") => `(tactic| fail)
local macro_rules | `(tactic| walk_at "mine Qd 6") => `(tactic| fail)
local macro_rules | `(tactic| walk_at "mine Qd 7") => `(tactic| fail)
local macro_rules | `(tactic| walk_at "mine Qd 8") => `(tactic| fail)
local macro_rules | `(tactic| walk_at "mine Qd 9") => `(tactic| fail)
local macro_rules | `(tactic| walk_at "mine Qd 10") => `(tactic| fail)
local macro_rules | `(tactic| walk_at "mine Qd 11") => `(tactic| fail)
local macro_rules | `(tactic| walk_at "mine Qd 12") => `(tactic| fail)
local macro_rules | `(tactic| walk_at "mine Qd 13") => `(tactic| fail)
local macro_rules | `(tactic| walk_at "mine Qd 14") => `(tactic| fail)
local macro_rules | `(tactic| walk_at "mine Qd 15") => `(tactic| fail)
local macro_rules | `(tactic| walk_at "mine Qd 16") => `(tactic| fail)
local macro_rules | `(tactic| walk_at "mine Qd 17") => `(tactic| fail)
local macro_rules | `(tactic| walk_at "mine Qd 18") => `(tactic| fail)
local macro_rules | `(tactic| walk_at "mine Qd 19") => `(tactic| fail)
local macro_rules | `(tactic| walk_at "mine Qd 20") => `(tactic| fail)
local macro_rules | `(tactic| walk_at "mine Qd 21") => `(tactic| fail)
local macro_rules | `(tactic| walk_at "mine Qd 22") => `(tactic| fail)
local macro_rules | `(tactic| walk_at "mine Qd 23") => `(tactic| fail)
local macro_rules | `(tactic| walk_at "mine Qd 24") => `(tactic| fail)
local macro_rules | `(tactic| walk_at "mine Qd 25") => `(tactic| fail)
local macro_rules | `(tactic| walk_at "mine Qd 26") => `(tactic| fail)
local macro_rules | `(tactic| walk_at "mine Qd 27") => `(tactic| fail)
local macro_rules | `(tactic| walk_at "mine Qd 28") => `(tactic| fail)
theorem fillK_Qd (P : Params) : hd.heap_1 P = hd.heap_1 P ∧ PySem.Challenge.rw_to0014_01 = PySem.Challenge.rw_to0014_01 := by
  k_fill
  exact ⟨rfl, rfl⟩
local macro_rules | `(tactic| cell_enter) => `(tactic| (refine' enter_plain ?k3 ?k5 ?k6 ?k7 ?k8 ?k9 ?kB ?_ ?c2 ?c3 ?c4 ?c5; (case k3 => k_asm); (case k5 => k_asm); (case k6 => k_is); (case k7 => k_is); (case k8 => omega); (case k9 => exact BindsTo.of_eq rfl); (case c5 => decide); (case kB => exact locs rfl); (case c2 => exact rfl); (case c3 => exact rfl); (case c4 => exact rfl); k_whole; intro L' h' hL' F' N'; (try dsimp only); (try k_fold)))
local macro_rules | `(tactic| ktr_enter) => `(tactic| (refine' enter_cells ?k3 ?k5 ?k6 ?k7 ?k8 ?k9 ?kB ?kD ?_ ?c2 ?c3 ?c4; (case k3 => k_asm); (case k5 => k_asm); (case k6 => k_is); (case k7 => k_is); (case k8 => omega); (case k9 => exact BindsTo.of_eq rfl); (case kB => exact rfl); (case kD => decide +kernel); (case c2 => exact rfl); (case c3 => exact rfl); (case c4 => exact rfl); k_whole; intro L' h' tk' cells' hL' F' N' Y'; k_cells Y'; (try simp only [List.cons_append, List.nil_append] at N'); (try dsimp only); (try k_fold)))
theorem crlf_len : ∀ R : List Row, (∀ r ∈ R, RowOk r) → (mailL (R.map crlfRow)).length ≤ (mailL R).length + R.length
  | [], _ => by simp [mailL]
  | r :: R, h => by
    have ih := crlf_len R fun r hr => h r (.tail _ hr)
    have h1 := (h r (.head _)).2
    rw [List.map_cons, mailL_cons, mailL_cons, List.length_append, List.length_append, oneRow_len, oneRow_len, List.length_cons]
    have : 1 ≤ r.2.2.length := by rcases h1 with h | h | h <;> rw [h] <;> decide
    simp only [crlfRow, List.length_cons, List.length_nil]
    omega
theorem pat1 {P : Params} {h : Heap} (X : (hd.heap_1 P).In h) : PatAt h 64 c1 := ⟨_, _, _, _, _, _, _, _, _, X 64 _ (by rfl), rfl, rfl, rfl, X 63 _ (by rfl), rfl, rfl, by kernel_rfl⟩
theorem pat2 {P : Params} {h : Heap} (X : (hd.heap_1 P).In h) : PatAt h 69 c2 := ⟨_, _, _, _, _, _, _, _, _, X 69 _ (by rfl), rfl, rfl, rfl, X 68 _ (by rfl), rfl, rfl, by kernel_rfl⟩
section
local macro_rules | `(tactic| walk_at "getMethod ref") => `(tactic| (k_here; (with_reducible show wpAny _ _ (getMethod (Value.ref _) (PySem.Str.ofString "sub") _) _ _ _); refine' getMethod_sub (PatAt.keeps ?p (Fr.keep ?F)) ?_; (case F => k_asm); (case p => with_reducible assumption)))
local macro_rules | `(tactic| walk_at "call builtin:re.Pattern.sub") => `(tactic| (k_here; (with_reducible show wpAny _ _ (call (Value.builtin "re.Pattern.sub") _) _ _ _); refine Stp.out ?_))
set_option maxRecDepth 100000 in
set_option maxHeartbeats 8000000 in
theorem quote_spec {w : World} {loose : List Str} {mean : ExcName → Option Value} {mg mb : Str → Option Value} (dp un : Nat) (gd : Option (List Code)) (outer : List Env) (s : Shared) (Q E : Value → Shared → Prop)
   (X : (hd.heap_1 w.params).In s.heap) (T : Top vw loose mean mg mb s.heap) (hd : dp + 5 < recursionLimit) (hu : un + 100 < cLine)
   (x : Str) (t : Tok) (R : List Row) (hx : x.cps.toList = mailL R) (hR : ∀ r ∈ R, RowOk r) (hl : x.length ≤ 50000) (hn : R.length ≤ 100)
   (hret : ∀ (z : Str) (tz : Tok) (h' : Heap) (tk' : Nat), z.cps.toList = mailL (R.map fun r => bump (crlfRow r)) → (∀ b o, s.heap.get? b = some o → h'.get? b = some o) → Q (.str z tz) { s with heap := h', toks := tk' }) :
   wpAny (model PySem.Challenge.rw_to0014_01.row.prog w) (Ar dp un gd outer) (call (.ref 76) [.str x t]) Q E s := by
  w_top off
  have hp1 := pat1 X
  have hp2 := pat2 X
  refine wpAny_call ?_
  k_dflt cell_enter
  k_steps
  rename Fr _ _ _ _ => kF
  rename News _ _ _ _ => kN
  have hxs : x.cps.size = x.length := rfl
  have hcr : (Str.ofString "\r\n").cps.toList = [13, 10] := by decide
  have hdd : (Str.ofString "..").cps.toList = [46, 46] := by decide
  refine Stp.mk ?_
  refine sub_call (ms := ms2 0 R) (PatAt.keeps hp2 kF.keep) (by omega) (by decide) (by decide +kernel) (by rw [ms2_len]; omega) (chain2 _ R 0 hR (by simpa using hx) (by omega)) fun z tok h2 tk2 hz hk => ?_
  rw [hcr, out2 _ R 0 (by simpa using hx)] at hz
  have kF2 := kF.keeps hk
  have kN2 := kN.grown hk
  clear kF kN
  k_steps
  rename Fr _ _ _ _ => kF3
  rename News _ _ _ _ => kN3
  refine Stp.mk ?_
  have hzs : z.cps.size = z.length := rfl
  have hR1 : ∀ r ∈ R.map crlfRow, Row1 r := by
    intro r hr
    obtain ⟨r', hr', rfl⟩ := List.mem_map.mp hr
    exact ⟨(hR r' hr').1, rfl⟩
  have hzl : z.length ≤ 60000 := by
    rw [← hzs, ← Array.length_toList, hz]
    have h1 := crlf_len R hR
    have h2 : (mailL R).length = x.length := by rw [← hx, Array.length_toList]; rfl
    omega
  refine sub_call (ms := ms1 0 (R.map crlfRow)) (PatAt.keeps hp1 kF3.keep) (by omega) (by decide) (by decide +kernel) (by rw [ms1_len, List.length_map]; omega) (chain1 _ (by omega) (R.map crlfRow) 0 0 hR1 (by simpa using hz) (by omega) (by omega) (.inl rfl) (fun i h1 h2 => by omega)) fun z3 tok3 h3 tk3 hz3 hk3 => ?_
  rw [hdd, out1 _ (R.map crlfRow) 0 0 hR1 (by simpa using hz) (by omega) (by omega)] at hz3
  have kF4 := kF3.keeps hk3
  k_steps
  refine Lv.mk kF4 fun keep => ?_
  exact hret z3 tok3 _ _ (by rw [hz3, List.map_map]; rfl) keep
end
end Mine
end
section
open PySem PySem.W PyProof.Rows PySem.Calls
namespace Mine
local macro_rules | `(tactic| walk_at "mine D1 0") => `(tactic| fail)
local macro_rules | `(tactic| walk_at "mine D1 1") => `(tactic| fail)
local macro_rules | `(tactic| walk_at "mine D1 2") => `(tactic| fail)
local macro_rules | `(tactic| walk_at "mine D1 3") => `(tactic| fail)
local macro_rules | `(tactic| walk_at "mine D1 4") => `(tactic| fail)
local macro_rules | `(tactic| walk_at "mine D1 5") => `(tactic| fail)
local macro_rules | `(tactic| walk_at "mine D1 6") => `(tactic| fail)
local macro_rules | `(tactic| walk_at "mine D1 7") => `(tactic| fail)
local macro_rules | `(tactic| walk_at "mine D1 8") => `(tactic| fail)
local macro_rules | `(tactic| walk_at "mine D1 9") => `(tactic| fail)
local macro_rules | `(tactic| walk_at "mine D1 10") => `(tactic| fail)
local macro_rules | `(tactic| walk_at "mine D1 11") => `(tactic| fail)
local macro_rules | `(tactic| walk_at "mine D1 12") => `(tactic| fail)
local macro_rules | `(tactic| walk_at "mine D1 13") => `(tactic| fail)
local macro_rules | `(tactic| walk_at "mine D1 14") => `(tactic| fail)
local macro_rules | `(tactic| walk_at "mine D1 15") => `(tactic| fail)
local macro_rules | `(tactic| walk_at "mine D1 16") => `(tactic| fail)
local macro_rules | `(tactic| walk_at "mine D1 17") => `(tactic| fail)
local macro_rules | `(tactic| walk_at "mine D1 18") => `(tactic| fail)
local macro_rules | `(tactic| walk_at "mine D1 19") => `(tactic| fail)
local macro_rules | `(tactic| walk_at "mine D1 20") => `(tactic| fail)
local macro_rules | `(tactic| walk_at "mine D1 21") => `(tactic| fail)
local macro_rules | `(tactic| walk_at "mine D1 22") => `(tactic| fail)
local macro_rules | `(tactic| walk_at "mine D1 23") => `(tactic| fail)
local macro_rules | `(tactic| walk_at "mine D1 24") => `(tactic| fail)
local macro_rules | `(tactic| walk_at "mine D1 25") => `(tactic| fail)
local macro_rules | `(tactic| walk_at "mine D1 26") => `(tactic| fail)
local macro_rules | `(tactic| walk_at "mine D1 27") => `(tactic| fail)
local macro_rules | `(tactic| walk_at "mine D1 28") => `(tactic| fail)
local macro_rules | `(tactic| walk_at "mine D1 29") => `(tactic| fail)
theorem fillK_D1 (P : Params) : hd.heap_1 P = hd.heap_1 P ∧ PySem.Challenge.rw_to0014_01 = PySem.Challenge.rw_to0014_01 := by
  k_fill
  exact ⟨rfl, rfl⟩
local macro_rules | `(tactic| cell_enter) => `(tactic| (refine' enter_plain ?k3 ?k5 ?k6 ?k7 ?k8 ?k9 ?kB ?_ ?c2 ?c3 ?c4 ?c5; (case k3 => k_asm); (case k5 => k_asm); (case k6 => k_is); (case k7 => k_is); (case k8 => omega); (case k9 => exact BindsTo.of_eq rfl); (case c5 => decide); (case kB => exact locs rfl); (case c2 => exact rfl); (case c3 => exact rfl); (case c4 => exact rfl); k_whole; intro L' h' hL' F' N'; (try dsimp only); (try k_fold)))
local macro_rules | `(tactic| ktr_enter) => `(tactic| (refine' enter_cells ?k3 ?k5 ?k6 ?k7 ?k8 ?k9 ?kB ?kD ?_ ?c2 ?c3 ?c4; (case k3 => k_asm); (case k5 => k_asm); (case k6 => k_is); (case k7 => k_is); (case k8 => omega); (case k9 => exact BindsTo.of_eq rfl); (case kB => exact rfl); (case kD => decide +kernel); (case c2 => exact rfl); (case c3 => exact rfl); (case c4 => exact rfl); k_whole; intro L' h' tk' cells' hL' F' N' Y'; k_cells Y'; (try simp only [List.cons_append, List.nil_append] at N'); (try dsimp only); (try k_fold)))
theorem len_made {prog : Program} {w : World} {A : Around} {E : Value → Shared → Prop} {s : Shared} {Q : Value → Shared → Prop} {l : Addr} {ys : List Value} {zs : List Int} {ns : List Int} (hl : s.heap.IsList l ys.toArray) (hc : CarriedAll ys (zs.map PyData.int)) (hn : ns.length ≤ 4) (hz : zs.length ≤ ns.length)
    (h : zs.length ≤ 4 → Q (.int (zs.length : Nat) (s.toks + 1)) { s with toks := s.toks + 1 + 1 }) : wpAny (model prog w) A (call (.builtin "len") [.ref l]) Q E s := by
  w_top off
  have e : ys.toArray.size = zs.length := by rw [List.size_toArray, (IntsAre.ofCarried hc).length]
  refine len_list hl (by rw [e]; omega) ?_
  rw [e]
  exact h (by omega)
theorem m1_bits (n : Nat) : Builtin.Int.intBits ((-1 : Int) ^ n) ≤ 64 := by
  have : (-1 : Int) ^ n = 1 ∨ (-1 : Int) ^ n = -1 := by
    induction n with
    | zero => left; rfl
    | succ n ih => rw [Int.pow_succ]; rcases ih with h | h <;> rw [h] <;> decide
  rcases this with h | h <;> rw [h] <;> decide
theorem mul_m1 {prog : Program} {w : World} {A : Around} {E : Value → Shared → Prop} {s : Shared} {Q : Value → Shared → Prop} {n : Nat} {b : Int} {t u : Tok} (h : Q (.int ((-1) ^ n * b) s.toks) { s with toks := s.toks + 1 }) : wpAny (model prog w) A (binaryOp .Mult (.int ((-1) ^ n) t) (.int b u)) Q E s :=
  mul_int h (IntMulOk.of_left (m1_bits n))
def toldL (ns : List Int) (t : Int) : List Int :=
  if ns.filter (fun a => a.fmod 3 == 0) = [] then
    let worth : Int := (-1) ^ ((((ns.filter (fun a => a.fmod 3 == 2)).length : Nat) : Int) + ((ns.length : Nat) : Int).fdiv 2).toNat * 3 ^ (((ns.length : Nat) : Int).fdiv 2).toNat
    let first : Int := (1 + t + 2 * (((ns.filter (fun a => a.fmod 3 == 2)).length : Nat) : Int) + ((ns.length : Nat) : Int).fdiv 2).fmod 3
    (rangeKs 0 3).map fun k' => (if ((ns.length : Nat) : Int).fmod 2 = 1 then [worth, -worth, 0] else [(2 * worth).fdiv 3, (-worth).fdiv 3, (-worth).fdiv 3]).getD ((k' - first).fmod 3).toNat 0
  else [0, 0, 0]
section
local macro_rules | `(tactic| walk_at "binaryOp Mult int int") => `(tactic| (with_reducible refine mul_m1 ?_))
local macro_rules | `(tactic| walk_at "call builtin:len") => `(tactic| ((with_reducible show wpAny _ _ (call (Value.builtin "len") [Value.ref _]) _ _ _); refine len_made (by with_reducible assumption) (by with_reducible assumption) (by with_reducible assumption) (List.length_filter_le _ _) ?_; intro _))
set_option maxRecDepth 100000 in
set_option maxHeartbeats 8000000 in
theorem told_spec {w : World} {loose : List Str} {mean : ExcName → Option Value} {mg mb : Str → Option Value} (dp un : Nat) (gd : Option (List Code)) (outer : List Env) (s : Shared) (Q E : Value → Shared → Prop)
   (X : (hd.heap_1 w.params).In s.heap) (T : Top vw loose mean mg mb s.heap) (hd : dp + 5 < recursionLimit) (hu : un + 100 < cLine)
   (c : Addr) (vs : List Value) (ns : List Int) (t : Int) (tb : Tok) (hc : s.heap.IsList c vs.toArray) (hv : IntsAre vs ns) (hn : ns.length ≤ 4) (ht : 1 ≤ t ∧ t ≤ 3)
   (hret : ∀ (r : Addr) (vr : List Value) (h' : Heap) (tk' : Nat), (∀ b o, s.heap.get? b = some o → h'.get? b = some o) → s.heap.get? r = none → h'.IsList r vr.toArray → IntsAre vr (toldL ns t) → Q (.ref r) { s with heap := h', toks := tk' }) :
   wpAny (model PySem.Challenge.rw_to0014_01.row.prog w) (Ar dp un gd outer) (call (.ref 125) [.ref c, .int t tb]) Q E s := by
  w_top off
  refine wpAny_call ?_
  k_dflt ktr_enter
  k_steps
  · rename Fr _ _ _ _ => kF
    rename News _ _ _ _ => kN
    rename IntsAre _ (List.map _ (rangeKs _ _)) => hI8
    have hz : ns.filter (fun a => a.fmod 3 == 0) = [] := by simpa using (by assumption : decide (List.map (fun a => a) (ns.filter (fun a => a.fmod 3 == 0)) = []) = true)
    have hodd : ((ns.length : Nat) : Int).fmod 2 = 1 := by assumption
    refine Lv.mk kF fun keep => ?_
    refine hret _ _ _ _ keep (kN _ (.head _)).2.2 (News.isList kN (.head _)) ?_
    unfold toldL
    rw [if_pos hz]
    simp only [hodd, if_true]
    exact hI8
  · rename Fr _ _ _ _ => kF
    rename News _ _ _ _ => kN
    rename IntsAre _ (List.map _ (rangeKs _ _)) => hI8
    have hz : ns.filter (fun a => a.fmod 3 == 0) = [] := by simpa using (by assumption : decide (List.map (fun a => a) (ns.filter (fun a => a.fmod 3 == 0)) = []) = true)
    have hodd : ¬ ((ns.length : Nat) : Int).fmod 2 = 1 := by assumption
    refine Lv.mk kF fun keep => ?_
    refine hret _ _ _ _ keep (kN _ (.head _)).2.2 (News.isList kN (.head _)) ?_
    unfold toldL
    rw [if_pos hz]
    simp only [hodd, if_false]
    exact hI8
  · rename Fr _ _ _ _ => kF
    rename News _ _ _ _ => kN
    have hz : ¬ ns.filter (fun a => a.fmod 3 == 0) = [] := by simpa using (by assumption : decide (List.map (fun a => a) (ns.filter (fun a => a.fmod 3 == 0)) = []) = false)
    refine Lv.mk kF fun keep => ?_
    refine hret _ [_, _, _] _ _ keep (kN _ (.head _)).2.2 (News.isList kN (.head _)) ?_
    unfold toldL
    rw [if_neg hz]
    exact IntsAre.cons _ _ (IntsAre.cons _ _ (IntsAre.cons _ _ IntsAre.nil))
end
end Mine
end
section
open PySem PySem.W PyProof.Rows PySem.Calls
namespace Mine
local macro_rules | `(tactic| walk_at "mine M1 0") => `(tactic| fail)
local macro_rules | `(tactic| walk_at "mine M1 1") => `(tactic| fail)
local macro_rules | `(tactic| walk_at "mine M1 2") => `(tactic| fail)
local macro_rules | `(tactic| walk_at "mine M1 3") => `(tactic| fail)
local macro_rules | `(tactic| walk_at "mine M1 4") => `(tactic| fail)
local macro_rules | `(tactic| walk_at "mine M1 5") => `(tactic| fail)
local macro_rules | `(tactic| walk_at "mine M1 6") => `(tactic| fail)
local macro_rules | `(tactic| walk_at "mine M1 7") => `(tactic| fail)
local macro_rules | `(tactic| walk_at "mine M1 8") => `(tactic| fail)
local macro_rules | `(tactic| walk_at "mine M1 9") => `(tactic| fail)
local macro_rules | `(tactic| walk_at "mine M1 10") => `(tactic| fail)
local macro_rules | `(tactic| walk_at "mine M1 11") => `(tactic| fail)
local macro_rules | `(tactic| walk_at "mine M1 12") => `(tactic| fail)
local macro_rules | `(tactic| walk_at "mine M1 13") => `(tactic| fail)
local macro_rules | `(tactic| walk_at "mine M1 14") => `(tactic| fail)
local macro_rules | `(tactic| walk_at "mine M1 15") => `(tactic| fail)
local macro_rules | `(tactic| walk_at "mine M1 16") => `(tactic| fail)
local macro_rules | `(tactic| walk_at "mine M1 17") => `(tactic| fail)
local macro_rules | `(tactic| walk_at "mine M1 18") => `(tactic| fail)
local macro_rules | `(tactic| walk_at "mine M1 19") => `(tactic| fail)
local macro_rules | `(tactic| walk_at "mine M1 20") => `(tactic| fail)
local macro_rules | `(tactic| walk_at "mine M1 21") => `(tactic| fail)
local macro_rules | `(tactic| walk_at "mine M1 22") => `(tactic| fail)
local macro_rules | `(tactic| walk_at "mine M1 23") => `(tactic| fail)
local macro_rules | `(tactic| walk_at "mine M1 24") => `(tactic| fail)
local macro_rules | `(tactic| walk_at "mine M1 25") => `(tactic| fail)
local macro_rules | `(tactic| walk_at "mine M1 26") => `(tactic| fail)
local macro_rules | `(tactic| walk_at "mine M1 27") => `(tactic| fail)
local macro_rules | `(tactic| walk_at "mine M1 28") => `(tactic| fail)
local macro_rules | `(tactic| walk_at "mine M1 29") => `(tactic| fail)
local macro_rules | `(tactic| walk_at "mine M1 30") => `(tactic| fail)
theorem fillK_M1 (P : Params) : hd.heap_1 P = hd.heap_1 P ∧ PySem.Challenge.rw_to0014_01 = PySem.Challenge.rw_to0014_01 := by
  k_fill
  exact ⟨rfl, rfl⟩
local macro_rules | `(tactic| cell_enter) => `(tactic| (refine' enter_plain ?k3 ?k5 ?k6 ?k7 ?k8 ?k9 ?kB ?_ ?c2 ?c3 ?c4 ?c5; (case k3 => k_asm); (case k5 => k_asm); (case k6 => k_is); (case k7 => k_is); (case k8 => omega); (case k9 => exact BindsTo.of_eq rfl); (case c5 => decide); (case kB => exact locs rfl); (case c2 => exact rfl); (case c3 => exact rfl); (case c4 => exact rfl); k_whole; intro L' h' hL' F' N'; (try dsimp only); (try k_fold)))
local macro_rules | `(tactic| ktr_enter) => `(tactic| (refine' enter_cells ?k3 ?k5 ?k6 ?k7 ?k8 ?k9 ?kB ?kD ?_ ?c2 ?c3 ?c4; (case k3 => k_asm); (case k5 => k_asm); (case k6 => k_is); (case k7 => k_is); (case k8 => omega); (case k9 => exact BindsTo.of_eq rfl); (case kB => exact rfl); (case kD => decide +kernel); (case c2 => exact rfl); (case c3 => exact rfl); (case c4 => exact rfl); k_whole; intro L' h' tk' cells' hL' F' N' Y'; k_cells Y'; (try simp only [List.cons_append, List.nil_append] at N'); (try dsimp only); (try k_fold)))
theorem mail_frame {A B C D u1 u2 u3 M CH TU : Option Value} : (fun y : Str => if y = Str.ofString "mail" then A else if y = Str.ofString "ending" then B else if y = Str.ofString "chosen" then C else if y = Str.ofString "place" then D else
    (fun y : Str => if y = Str.ofString "place" then u1 else if y = Str.ofString "chosen" then u2 else if y = Str.ofString "ending" then u3 else if y = Str.ofString "mail" then M else if y = Str.ofString "choices" then CH else if y = Str.ofString "turn" then TU else none) y) =
    fun y : Str => if y = Str.ofString "place" then D else if y = Str.ofString "chosen" then C else if y = Str.ofString "ending" then B else if y = Str.ofString "mail" then A else if y = Str.ofString "choices" then CH else if y = Str.ofString "turn" then TU else none := by
  funext y
  by_cases h1 : y = Str.ofString "place"
  · subst h1; rfl
  · by_cases h2 : y = Str.ofString "chosen"
    · subst h2; rfl
    · by_cases h3 : y = Str.ofString "ending"
      · subst h3; rfl
      · by_cases h4 : y = Str.ofString "mail"
        · subst h4; rfl
        · simp only [h1, h2, h3, h4, if_false]
theorem mail_len {Z : Str} {R : List Row} {S : Int} {n i : Nat} {e : List Nat} (h : Z.cps.toList = mailL (R ++ [(1 + S.toNat, n, e)])) (hR : (mailL R).length ≤ 40 * i) (hn : n ≤ 4) (hS : S ≤ 20) (he : e.length ≤ 2) : Z.length ≤ 40 * (i + 1) := by
  have : Z.length = Z.cps.toList.length := by rw [Array.length_toList]; rfl
  rw [this, h, mailL_append, List.length_append]
  have h2 : (mailL [(1 + S.toNat, n, e)]).length = 1 + S.toNat + n + e.length := by
    have := oneRow_len (1 + S.toNat, n, e)
    simp only [mailL, List.flatMap_cons, List.flatMap_nil, List.append_nil, this]
  rw [h2]; omega
def endL (r : Int) : List Nat := if r = 0 then [10] else if r = 1 then [13] else [13, 10]
def rowsOf (u : Int) : Nat → List (List Int) → List Row
  | _, [] => []
  | i, ns :: nss => (1 + ns.sum.toNat, ns.length, endL (((i : Int) + u).fmod 3)) :: rowsOf u (i + 1) nss
theorem rowsOf_append (u : Int) : ∀ (a b : List (List Int)) (i : Nat), rowsOf u i (a ++ b) = rowsOf u i a ++ rowsOf u (i + a.length) b
  | [], b, i => by simp [rowsOf]
  | ns :: a, b, i => by
    rw [List.cons_append, rowsOf, rowsOf, rowsOf_append u a b (i + 1), List.length_cons, List.cons_append, show i + 1 + a.length = i + (a.length + 1) by omega]
section
local macro_rules | `(tactic| walk_at "exec For Tuple Call") => `(tactic| (with_reducible show wpAny _ _ (exec _ _) _ _ _; refine Stp.out ?_))
local macro_rules | `(tactic| walk_at "call type:enumerate") => `(tactic| (k_here; (with_reducible show wpAny _ _ (call (Value.type "enumerate") [Value.ref _]) _ _ _); refine' enum_call ?FF ?NN ?LL ?_; (case FF => k_asm); (case NN => k_asm); (case LL => is_list); intro _ _ _ _ _ _ _ _ _ _ _))
set_option maxRecDepth 100000 in
set_option maxHeartbeats 8000000 in
theorem mail_spec {w : World} {loose : List Str} {mean : ExcName → Option Value} {mg mb : Str → Option Value} (dp un : Nat) (gd : Option (List Code)) (outer : List Env) (s : Shared) (Q E : Value → Shared → Prop)
   (X : (hd.heap_1 w.params).In s.heap) (T : Top vw loose mean mg mb s.heap) (hd : dp + 5 < recursionLimit) (hu : un + 100 < cLine)
   (c : Addr) (vs : List Value) (nss : List (List Int)) (u : Int) (tu : Tok) (hc : s.heap.IsList c vs.toArray) (hv : ListsAre s.heap vs nss) (hn : nss.length ≤ 16) (hu0 : 0 ≤ u ∧ u ≤ 1000000000)
   (hb : ∀ ns ∈ nss, ns.length ≤ 4 ∧ 0 ≤ ns.sum ∧ ns.sum ≤ 20)
   (hret : ∀ (z : Str) (tz : Tok) (h' : Heap) (tk' : Nat), z.cps.toList = mailL (rowsOf u 0 nss) → (∀ b o, s.heap.get? b = some o → h'.get? b = some o) → Q (.str z tz) { s with heap := h', toks := tk' }) :
   wpAny (model PySem.Challenge.rw_to0014_01.row.prog w) (Ar dp un gd outer) (call (.ref 101) [.ref c, .int u tu]) Q E s := by
  w_top off
  refine wpAny_call ?_
  k_dflt cell_enter
  k_steps
  refine Stp.mk ?_
  rename Fr _ _ _ _ => kF
  rename News _ _ _ _ => kN
  rename_i L' _ _ _
  obtain ⟨t0, kF⟩ : ∃ t0, Fr s.heap L' _ (fun y => if y = Str.ofString "place" then none else if y = Str.ofString "chosen" then none else if y = Str.ofString "ending" then none else if y = Str.ofString "mail" then some (Value.str (Str.ofString "") t0) else if y = Str.ofString "choices" then some (Value.ref c) else if y = Str.ofString "turn" then some (Value.int u tu) else none) := ⟨_, Mine.Fr.eqm kF fun y => by
    by_cases h1 : y = Str.ofString "place"
    · subst h1; rfl
    · by_cases h2 : y = Str.ofString "chosen"
      · subst h2; rfl
      · by_cases h3 : y = Str.ofString "ending"
        · subst h3; rfl
        · by_cases h4 : y = Str.ofString "mail"
          · subst h4; rfl
          · by_cases h5 : y = Str.ofString "choices"
            · subst h5; rfl
            · by_cases h6 : y = Str.ofString "turn"
              · subst h6; rfl
              · simp only [h1, h2, h3, h4, h5, h6, if_false]
                refine lookup_no (l := [(Str.ofString "turn", Value.int u tu), (Str.ofString "choices", Value.ref c)]) fun kv hkv => ?_
                rcases List.mem_cons.mp hkv with rfl | hkv
                · exact h6
                · rcases List.mem_cons.mp hkv with rfl | hkv
                  · exact h5
                  · cases hkv⟩
  refine For_enum (L := L') (news := []) rfl
    (fun i m₁ nw => ∃ (u1 u2 u3 : Option Value) (z : Str) (t : Tok), nw = [] ∧ z.cps.toList = mailL (rowsOf u 0 (nss.take i)) ∧ z.length ≤ 40 * i ∧ m₁ = fun y => if y = Str.ofString "place" then u1 else if y = Str.ofString "chosen" then u2 else if y = Str.ofString "ending" then u3 else if y = Str.ofString "mail" then some (Value.str z t) else if y = Str.ofString "choices" then some (Value.ref c) else if y = Str.ofString "turn" then some (Value.int u tu) else none)
    rfl rfl rfl rfl hc ⟨none, none, none, Str.ofString "", t0, rfl, rfl, by decide, rfl⟩ ?_ ?_ ?_
  · k_steps
    rename Fr _ _ _ _ => kF1
    rename News _ _ _ _ => kN1
    rename Heap.IsListIter _ _ _ _ => hit1
    exact Stp.mk ⟨_, _, _, _, _, rfl, rfl, kF1, kN1, hit1, by assumption, by assumption, by assumption, by assumption⟩
  · rintro i v t m₁ nw h₁ tk₁ e oE I oI hi ⟨u1, u2, u3, z, tz, rfl, hz, hzl, rfl⟩ oe oi hLI hIe F₁ N₁
    obtain ⟨ns, ra, ws, hns, rfl, hl, hw⟩ := listsAre_get hv i v (by simpa using hi)
    obtain ⟨hb1, hb2, hb3⟩ := hb ns (List.mem_of_getElem? hns)
    have hi16 : i < 16 := by have := listsAre_len hv; have := (Array.getElem?_eq_some_iff.mp hi).1; rw [List.size_toArray] at this; omega
    have hzl2 : z.length ≤ 640 := by omega
    have htake : nss.take (i + 1) = nss.take i ++ [ns] := by rw [List.take_add_one, hns]; rfl
    have hlen : (nss.take i).length = i := by
      have h1 := (List.getElem?_eq_some_iff.mp hns).1
      rw [List.length_take]; omega
    have hrows : rowsOf u 0 (nss.take (i + 1)) = rowsOf u 0 (nss.take i) ++ [(1 + ns.sum.toNat, ns.length, endL (((i : Int) + u).fmod 3))] := by
      rw [htake, rowsOf_append, hlen, Nat.zero_add]; rfl
    clear kF kN
    k_steps
    all_goals rename Fr _ _ _ _ => kF2
    all_goals rename News _ _ _ _ => kN2
    all_goals rename ((i : Int) + u).fmod 3 = _ => hr
    all_goals rw [hr] at hrows
    all_goals rw [mail_frame] at kF2
    · have ht := mail_turn z (Str.ofString "\n") _ ns.sum ns.length hz hb2
      refine TurnEnd2.intro kF2 (Mine.News.drop1 kN2) trivial trivial ⟨_, _, _, _, _, rfl, by rw [hrows]; exact ht, mail_len ht (by rw [← hz]; exact hzl) hb1 hb3 (by decide), rfl⟩
    · have ht := mail_turn z (Str.ofString "\r") _ ns.sum ns.length hz hb2
      refine TurnEnd2.intro kF2 (Mine.News.drop1 kN2) trivial trivial ⟨_, _, _, _, _, rfl, by rw [hrows]; exact ht, mail_len ht (by rw [← hz]; exact hzl) hb1 hb3 (by decide), rfl⟩
    · have ht := mail_turn z (Str.ofString "\r\n") _ ns.sum ns.length hz hb2
      refine TurnEnd2.intro kF2 (Mine.News.drop1 kN2) trivial trivial ⟨_, _, _, _, _, rfl, by rw [hrows]; exact ht, mail_len ht (by rw [← hz]; exact hzl) hb1 hb3 (by decide), rfl⟩
  · rintro h' tk' m' nw ⟨u1, u2, u3, z, tz, rfl, hz, hzl, rfl⟩ F N
    have hfull : nss.take vs.toArray.size = nss := List.take_of_length_le (by rw [List.size_toArray, listsAre_len hv]; exact Nat.le_refl _)
    rw [hfull] at hz
    clear kF kN
    k_steps
    refine Lv.mk F fun keep => ?_
    exact hret _ _ _ _ hz keep
end
end Mine
end
section
open PySem PySem.W PyProof.Rows PySem.Calls PyProof.Rows.LCg
namespace Mine
local macro_rules | `(tactic| walk_at "mine H1 0") => `(tactic| fail)
local macro_rules | `(tactic| walk_at "mine H1 1") => `(tactic| fail)
local macro_rules | `(tactic| walk_at "mine H1 2") => `(tactic| fail)
local macro_rules | `(tactic| walk_at "mine H1 3") => `(tactic| fail)
local macro_rules | `(tactic| walk_at "mine H1 4") => `(tactic| fail)
local macro_rules | `(tactic| walk_at "mine H1 5") => `(tactic| fail)
local macro_rules | `(tactic| walk_at "mine H1 6") => `(tactic| fail)
local macro_rules | `(tactic| walk_at "mine H1 7") => `(tactic| fail)
local macro_rules | `(tactic| walk_at "mine H1 8") => `(tactic| fail)
local macro_rules | `(tactic| walk_at "mine H1 9") => `(tactic| fail)
local macro_rules | `(tactic| walk_at "mine H1 10") => `(tactic| fail)
local macro_rules | `(tactic| walk_at "mine H1 11") => `(tactic| fail)
local macro_rules | `(tactic| walk_at "mine H1 12") => `(tactic| fail)
local macro_rules | `(tactic| walk_at "mine H1 13") => `(tactic| fail)
local macro_rules | `(tactic| walk_at "mine H1 14") => `(tactic| fail)
local macro_rules | `(tactic| walk_at "mine H1 15") => `(tactic| fail)
local macro_rules | `(tactic| walk_at "mine H1 16") => `(tactic| fail)
local macro_rules | `(tactic| walk_at "mine H1 17") => `(tactic| fail)
local macro_rules | `(tactic| walk_at "mine H1 18") => `(tactic| fail)
local macro_rules | `(tactic| walk_at "mine H1 19") => `(tactic| fail)
local macro_rules | `(tactic| walk_at "mine H1 20") => `(tactic| fail)
local macro_rules | `(tactic| walk_at "mine H1 21") => `(tactic| fail)
local macro_rules | `(tactic| walk_at "mine H1 22") => `(tactic| fail)
local macro_rules | `(tactic| walk_at "mine H1 23") => `(tactic| fail)
local macro_rules | `(tactic| walk_at "mine H1 24") => `(tactic| fail)
local macro_rules | `(tactic| walk_at "mine H1 25") => `(tactic| fail)
local macro_rules | `(tactic| walk_at "mine H1 26") => `(tactic| fail)
local macro_rules | `(tactic| walk_at "mine H1 27") => `(tactic| fail)
local macro_rules | `(tactic| walk_at "mine H1 28") => `(tactic| fail)
local macro_rules | `(tactic| walk_at "mine H1 29") => `(tactic| fail)
local macro_rules | `(tactic| walk_at "mine H1 30") => `(tactic| fail)
theorem fillK_H1 (P : Params) : hd.heap_1 P = hd.heap_1 P ∧ PySem.Challenge.rw_to0014_01 = PySem.Challenge.rw_to0014_01 := by
  k_fill
  exact ⟨rfl, rfl⟩
local macro_rules | `(tactic| cell_enter) => `(tactic| (refine' enter_plain ?k3 ?k5 ?k6 ?k7 ?k8 ?k9 ?kB ?_ ?c2 ?c3 ?c4 ?c5; (case k3 => k_asm); (case k5 => k_asm); (case k6 => k_is); (case k7 => k_is); (case k8 => omega); (case k9 => exact BindsTo.of_eq rfl); (case c5 => decide); (case kB => exact locs rfl); (case c2 => exact rfl); (case c3 => exact rfl); (case c4 => exact rfl); k_whole; intro L' h' hL' F' N'; (try dsimp only); (try k_fold)))
local macro_rules | `(tactic| ktr_enter) => `(tactic| (refine' enter_cells ?k3 ?k5 ?k6 ?k7 ?k8 ?k9 ?kB ?kD ?_ ?c2 ?c3 ?c4; (case k3 => k_asm); (case k5 => k_asm); (case k6 => k_is); (case k7 => k_is); (case k8 => omega); (case k9 => exact BindsTo.of_eq rfl); (case kB => exact rfl); (case kD => decide +kernel); (case c2 => exact rfl); (case c3 => exact rfl); (case c4 => exact rfl); k_whole; intro L' h' tk' cells' hL' F' N' Y'; k_cells Y'; (try simp only [List.cons_append, List.nil_append] at N'); (try dsimp only); (try k_fold)))
def chosenL (k : Int) : Nat → List Int → List Int
  | _, [] => []
  | i, a :: r => if (k.fdiv (2 ^ i)).fmod 2 = 1 then a :: chosenL k (i + 1) r else chosenL k (i + 1) r
theorem chosenL_snoc (k : Int) (a : Int) : ∀ (l : List Int) (j : Nat), chosenL k j (l ++ [a]) = chosenL k j l ++ (if (k.fdiv (2 ^ (j + l.length))).fmod 2 = 1 then [a] else [])
  | [], j => by simp [chosenL]
  | b :: l, j => by
    rw [List.cons_append, chosenL, chosenL, chosenL_snoc k a l (j + 1), List.length_cons, show j + 1 + l.length = j + (l.length + 1) by omega]
    split <;> simp
theorem chosenL_len (k : Int) : ∀ (l : List Int) (j : Nat), (chosenL k j l).length ≤ l.length
  | [], _ => Nat.le_refl _
  | b :: l, j => by
    rw [chosenL]
    have := chosenL_len k l (j + 1)
    split <;> simp <;> omega
section
local macro_rules | `(tactic| walk_at "call type:enumerate") => `(tactic| (k_here; (with_reducible show wpAny _ _ (call (Value.type "enumerate") [Value.ref _]) _ _ _); refine' enum_call ?FF ?NN ?LL ?_; (case FF => k_asm); (case NN => k_asm); (case LL => is_list); intro _ _ _ _ _ _ _ _ _ _ _))
local macro_rules | `(tactic| k_all) => `(tactic| exact off1_ne (by with_reducible assumption))
local macro_rules | `(tactic| walk_at "eval ListComp") => `(tactic| (with_reducible show wpAny _ _ (eval _ _) _ _ _; refine Stp.out ?_))
local macro_rules | `(tactic| walk_at "exec For Name Call") => `(tactic| (with_reducible show wpAny _ _ (exec _ _) _ _ _; refine Stp.out ?_))
set_option maxRecDepth 100000 in
set_option maxHeartbeats 8000000 in
theorem choices_spec {w : World} {loose : List Str} {mean : ExcName → Option Value} {mg mb : Str → Option Value} (dp un : Nat) (gd : Option (List Code)) (outer : List Env) (s : Shared) (Q E : Value → Shared → Prop)
   (X : (hd.heap_1 w.params).In s.heap) (T : Top vw loose mean mg mb s.heap) (hd : dp + 5 < recursionLimit) (hu : un + 100 < cLine)
   (c : Addr) (vs : List Value) (ns : List Int) (hc : s.heap.IsList c vs.toArray) (hv : IntsAre vs ns) (hn : ns.length ≤ 4)
   (hret : ∀ (r : Addr) (refs : List Value) (h' : Heap) (tk' : Nat), s.heap.get? r = none → (∀ b o, s.heap.get? b = some o → h'.get? b = some o) → h'.IsList r refs.toArray → (∃ inner, Inn inner refs ((List.range (2 ^ ns.length)).map fun j : Nat => chosenL (j : Int) 0 ns) ∧ ∀ p ∈ inner, h'.get? p.1 = some p.2 ∧ s.heap.get? p.1 = none) → Q (.ref r) { s with heap := h', toks := tk' }) :
   wpAny (model PySem.Challenge.rw_to0014_01.row.prog w) (Ar dp un gd outer) (call (.ref 94) [.ref c]) Q E s := by
  w_top off
  refine wpAny_call ?_
  k_dflt ktr_enter
  k_steps
  refine Stp.mk ?_
  rename Fr _ _ _ _ => kF
  rename News _ _ _ _ => kN
  rename_i L' _ _ _ oc hocd CH _ hCH _
  replace kF := Mine.Fr.eqm (m' := fun y => if y = Str.ofString "choices" then some (Value.ref CH) else if y = Str.ofString "pieces" then some (Value.ref c) else none) kF fun y => by
    by_cases h1 : y = Str.ofString "choices"
    · subst h1; rfl
    · by_cases h2 : y = Str.ofString "pieces"
      · subst h2; rfl
      · simp only [h1, h2, if_false]
        show bindL _ [(Str.ofString "pieces", Value.ref c)] _ y = none
        unfold bindL bindL
        split
        · exact if_neg h2
        · rfl
  refine For_range (h₀ := s.heap) (L := L') (n := 2 ^ ns.length) (news := [(CH, listOf #[] 0), (L' + 1, oc)]) rfl
    (fun k m₁ nw => ∃ (refs : List Value) (inner : List (Addr × Obj)) (ep : Nat) (oc' : Obj) (cv : Option Value), oc'.data = .cell cv ∧ nw = (CH, listOf refs.toArray ep) :: (L' + 1, oc') :: inner ∧ Inn inner refs ((List.range k).map fun j : Nat => chosenL (j : Int) 0 ns) ∧ Off1 CH inner ∧ Off1 (L' + 1) inner ∧
      m₁ = fun y => if y = Str.ofString "choices" then some (Value.ref CH) else if y = Str.ofString "pieces" then some (Value.ref c) else none)
    rfl (Nat.le_trans (Nat.pow_le_pow_right (by decide) hn) (by decide : 2 ^ 4 ≤ 1000000)) ?_ ⟨[], [], 0, oc, _, hocd, rfl, .nil, trivial, trivial, rfl⟩ ?_ ?_
  · k_steps
    rename Fr _ _ _ _ => kF1
    rename News _ _ _ _ => kN1
    rename IsRange _ _ _ _ _ _ _ _ => hr
    have e2 : (2 : Int) ^ (((ns.length : Nat) : Int)).toNat = ((2 ^ ns.length : Nat) : Int) := by rw [Int.toNat_natCast]; push_cast; rfl
    rw [e2] at hr
    exact Stp.mk ⟨_, _, _, _, _, _, rfl, rfl, hr, kF1, kN1⟩
  · rintro k t m₁ nw h₁ tk₁ I oI hk ⟨refs, inner, ep, oc', cv, hcv, rfl, hinn, oCH, oL, rfl⟩ hoff hLI F₁ N₁
    have hI1 : @Ne Nat CH I := hoff.1
    have hI2 : @Ne Nat (L' + 1) I := hoff.2.1
    have hCL : @Ne Nat (L' + 1) CH := Nat.ne_of_lt hCH
    clear kF kN
    k_steps
    rename Fr _ _ _ _ => kF2
    rename News _ _ _ _ => kN2
    rename_i oc2 hcd2
    refine Stp.mk ?_
    have hvl := hv.length
    refine ListComp_enum (h₀ := s.heap) (L := L') (m := fun y => if y = Str.ofString "choices" then some (Value.ref CH) else if y = Str.ofString "pieces" then some (Value.ref c) else none) (items := vs.toArray) (news := (I, oI) :: (CH, listOf refs.toArray ep) :: (L' + 1, oc2) :: inner) rfl (by decide) rfl (by decide) rfl rfl (by decide) rfl hc (by rw [List.size_toArray]; omega)
      (fun i ys => IntsAre ys (chosenL (k : Int) 0 (ns.take i))) IntsAre.nil (fun i ys h => by rw [h.length]; exact Nat.le_trans (chosenL_len _ _ _) (by rw [List.length_take]; omega)) ?_ ?_ ?_
    · k_steps
      exact Stp.mk ⟨_, _, _, _, _, rfl, rfl, by with_reducible assumption, by with_reducible assumption, by with_reducible assumption, by with_reducible assumption, by with_reducible assumption, by with_reducible assumption, by with_reducible assumption⟩
    · intro i v t2 e oE I2 oI2 C oC D m₂ h3 tk3 ys E' hi hinv hoC hm1 hm2 F3 N3 n1 n2 n3 n4 n5 n6 oe oi oC1 oD1
      clear kF2 kN2
      have hi4 : i < ns.length := by rw [← hvl]; have := (Array.getElem?_eq_some_iff.mp hi).1; simpa using this
      obtain ⟨ti, hti⟩ := hv.get i ns[i] (by simp [hi4])
      have hvi : v = .int ns[i] ti := by
        have : vs[i]? = some v := by simpa using hi
        rw [hti] at this; exact (Option.some.inj this).symm
      subst hvi
      have hi0 : i = 0 ∨ i = 1 ∨ i = 2 ∨ i = 3 := by omega
      have hstep : chosenL (k : Int) 0 (ns.take (i + 1)) = chosenL (k : Int) 0 (ns.take i) ++ (if ((k : Int).fdiv (2 ^ i)).fmod 2 = 1 then [ns[i]] else []) := by
        have h1 : ns.take (i + 1) = ns.take i ++ [ns[i]] := by rw [List.take_add_one, List.getElem?_eq_getElem hi4]; rfl
        have h2 : (ns.take i).length = i := by rw [List.length_take]; omega
        rw [h1, chosenL_snoc, h2, Nat.zero_add]
      have hpos : ((k : Int).fdiv (2 ^ i)).fmod 2 = 1 → chosenL (k : Int) 0 (ns.take (i + 1)) = chosenL (k : Int) 0 (ns.take i) ++ [ns[i]] := fun q => by rw [hstep, if_pos q]
      have hneg : ¬ ((k : Int).fdiv (2 ^ i)).fmod 2 = 1 → chosenL (k : Int) 0 (ns.take (i + 1)) = chosenL (k : Int) 0 (ns.take i) := fun q => by rw [hstep, if_neg q, List.append_nil]
      rcases hi0 with rfl | rfl | rfl | rfl
      all_goals k_steps
      all_goals refine Stp.mk ⟨Kp.mk F3 N3, ?_⟩
      all_goals split
      all_goals rename_i hcond
      all_goals first
        | (rw [hneg (fun q => hcond (beq_iff_eq.mpr q))]; exact hinv)
        | (k_steps; refine Stp.mk ⟨Kp.mk F3 N3, ?_⟩; rw [hpos (beq_iff_eq.mp hcond)]; exact IntsAre.append hinv (IntsAre.cons _ _ IntsAre.nil))
    · intro D h4 tk4 ys F4 N4 oD hinv
      have hfull : ns.take vs.toArray.size = ns := List.take_of_length_le (by rw [List.size_toArray, hvl]; exact Nat.le_refl _)
      rw [hfull] at hinv
      dsimp only [Off1] at oD
      obtain ⟨oD1, oD2, oD3, oD4⟩ := oD
      clear kF2 kN2
      have hlenR : refs.length = k := by rw [hinn.len, List.length_map, List.length_range]
      have hk16 : k < 16 := Nat.lt_of_lt_of_le hk (Nat.pow_le_pow_right (by decide) hn : 2 ^ ns.length ≤ 2 ^ 4)
      have hlenR2 : refs.length ≤ 16 := by omega
      k_steps
      rename Fr _ _ _ _ => kF5
      rename News _ _ _ _ => kN5
      rw [List.push_toArray] at kN5
      obtain ⟨ep', kN5⟩ : ∃ ep', News _ _ _ ((D, lst ys) :: (I, oI) :: (CH, listOf (refs ++ [Value.ref D]).toArray ep') :: (L' + 1, oc2) :: inner) := ⟨_, kN5⟩
      refine TurnEnd.intro (nw₂ := (CH, listOf (refs ++ [Value.ref D]).toArray ep') :: (L' + 1, oc2) :: (D, lst ys) :: inner) kF5 (fun p hp => kN5 p ?_) ⟨hI1, hI2, Ne.symm oD1, hoff.2.2⟩ ⟨refs ++ [Value.ref D], (D, lst ys) :: inner, ep', oc2, _, hcd2, rfl, ?_, ⟨Ne.symm oD2, oCH⟩, ⟨Ne.symm oD3, oL⟩, rfl⟩
      · rcases List.mem_cons.mp hp with rfl | hp
        · exact .tail _ (.head _)
        · rcases List.mem_cons.mp hp with rfl | hp
          · exact .tail _ (.tail _ (.head _))
          · rcases List.mem_cons.mp hp with rfl | hp
            · exact .tail _ (.tail _ (.tail _ (.head _)))
            · rcases List.mem_cons.mp hp with rfl | hp
              · exact .head _
              · exact .tail _ (.tail _ (.tail _ (.tail _ hp)))
      · rw [List.range_succ, List.map_append]
        exact Inn.snoc hinn hinv
  · rintro h' tk' m' nw ⟨refs, inner, ep, oc', cv, hcv, rfl, hinn, oCH, oL, rfl⟩ F N
    clear kF kN
    k_steps
    show Lv s.heap L' Q (.ref CH) _
    refine Lv.mk F fun keep => ?_
    exact hret _ _ _ _ (N _ (.head _)).2.2 keep ⟨_, (N _ (.head _)).1, rfl, _, rfl⟩ ⟨inner, hinn, fun p hp => ⟨(N p (.tail _ (.tail _ hp))).1, (N p (.tail _ (.tail _ hp))).2.2⟩⟩
end
end Mine
end
section
open PySem PySem.W PyProof.Rows PySem.Calls PySem.Spec
namespace Mine
section
variable {prog : Program} {w : World} {A : Around} {R : GenEnd} {Y : Protocol} {n : Nat} {s₀ : Shared} {c : Code} {fs : List Frame} {s : Shared} {env : Env} {K : Flow → Sem Fin} {H : Value → Sem Fin} {gd : Bool → Bool} {lv : List Value → List Value}
theorem seg_stmt {st : Stmt} {rest : List Stmt} (h : wpAny (model prog w) (A.over c fs) (exec st env) (fun f s' => match f with | .next => Seg (model prog w) A R Y n s₀ c ((execs rest env).wrap K H gd lv) fs s' | f => Seg (model prog w) A R Y n s₀ c (K f) fs s')
    (fun x s' => Seg (model prog w) A R Y n s₀ c (H x) fs s') s) : Seg (model prog w) A R Y n s₀ c ((execs (st :: rest) env).wrap K H gd lv) fs s := by
  refine seg_execs_cons (seg_wrap (wpAny_mono h (fun f s' h' => ?_) fun _ _ e => e))
  cases f <;> exact h'
theorem seg_If {test : Expr} {body orelse : List Stmt} {pos : PySem.Pos}
    (h : wpAny (model prog w) (A.over c fs) (isTrue test env (eval test env)) (fun b s' => if b = true then Seg (model prog w) A R Y n s₀ c ((execs body env).wrap K H gd lv) fs s' else Seg (model prog w) A R Y n s₀ c ((execs orelse env).wrap K H gd lv) fs s')
      (fun x s' => Seg (model prog w) A R Y n s₀ c (H x) fs s') s) : Seg (model prog w) A R Y n s₀ c ((exec (.If test body orelse pos) env).wrap K H gd lv) fs s := by
  rw [exec_If]
  refine seg_bind_wrap (wpAny_standAt (seg_bind_wrap (wpAny_mono h (fun b s' h' => ?_) fun _ _ e => e)))
  cases b with
  | true => rw [if_pos rfl] at h' ⊢; exact h'
  | false => rw [if_neg (by decide)] at h' ⊢; exact h'
/-- what is done with a loop's end -/
def loopK (env : Env) (K : Flow → Sem Fin) (H : Value → Sem Fin) (gd : Bool → Bool) (lv : List Value → List Value) (r : Result) : Sem Fin :=
  ((match r with | .ok f => (.pure f : Sem Flow) | .error e => .raise e).onRaise fun (x : Value) => do
        if (← field x 1) == Value.none then unsupported "frame.own-activation:exception-without-traceback"
        setFlight x env.frame).wrap K H gd lv
theorem seg_For {target iter : Expr} {body orelse : List Stmt} {pos : PySem.Pos}
    (h : wpAny (model prog w) (A.over c fs) (eval iter env) (fun x s₁ => wpAny (model prog w) (A.over c fs) (pyIter x) (fun it s₂ => ∀ p, Seg (model prog w) A R Y n s₀ (.forLoop target it body orelse env) ((model prog w).den (.forLoop target it body orelse env))
      (.ret (loopK env K H gd lv) none (gd false) (lv []) c p [] :: fs) s₂) (fun x s' => Seg (model prog w) A R Y n s₀ c (H x) fs s') s₁) (fun x s' => Seg (model prog w) A R Y n s₀ c (H x) fs s') s)
    (hs : ∀ x, foldedSetIterable iter env x = pure x := by intro _; rfl) :
    Seg (model prog w) A R Y n s₀ c ((exec (.For target iter body orelse pos) env).wrap K H gd lv) fs s := by
  rw [exec_For]
  refine seg_bind_wrap (wpAny_standAt (seg_bind_wrap (wpAny_mono h (fun x s₁ h₁ => ?_) fun _ _ e => e)))
  refine seg_bind_wrap (wpAny_of_eq (hs x) (seg_bind_wrap (wpAny_standAt (seg_bind_wrap (wpAny_holding (wpAny_mono h₁ (fun it s₂ h₂ => ?_) fun _ _ e => e))))))
  exact seg_call h₂
def forK (target : Expr) (it : Value) (body orelse : List Stmt) (env : Env) (f : Flow) : Sem Fin := match f with
  | .next | .cont => .pure (.again (.forLoop target it body orelse env))
  | .brk => .pure (.done .next)
  | .ret v => .pure (.done (.ret v))
def forH (env : Env) (e : Value) : Sem Fin := ((do noteFrame e env; theTreesLotGoes e : Sem Unit)).bind fun _ => .raise e
theorem seg_forLoop {target : Expr} {it : Value} {body orelse : List Stmt}
    (h : wpAny (model prog w) (A.over (.forLoop target it body orelse env) fs) (pyNext it) (fun r s₁ => match r with
      | none => Seg (model prog w) A R Y n s₀ (.forLoop target it body orelse env) (.pure (.again (.block orelse env))) fs s₁
      | some v => wpAny (model prog w) (A.over (.forLoop target it body orelse env) fs) (assign target env v) (fun _ s₂ =>
          Seg (model prog w) A R Y n s₀ (.forLoop target it body orelse env) ((execs body env).wrap (forK target it body orelse env) (forH env) id id) fs s₂)
          (fun x s' => Seg (model prog w) A R Y n s₀ (.forLoop target it body orelse env) (forH env x) fs s') s₁)
      (fun x s' => Seg (model prog w) A R Y n s₀ (.forLoop target it body orelse env) (forH env x) fs s') s)
    (ht : ∀ v, letOwnedTupleGo target it v = pure () := by intro _; rfl) :
    Seg (model prog w) A R Y n s₀ (.forLoop target it body orelse env) ((model prog w).den (.forLoop target it body orelse env)) fs s := by
  show Seg _ A R Y n s₀ _ ((forTurn target it body orelse env).onRaise (fun x => do noteFrame x env; theTreesLotGoes x)) fs s
  rw [Sem.onRaise_eq_wrap]
  simp only [forTurn]
  refine seg_bind_wrap (wpAny_standAt (seg_bind_wrap (wpAny_onRaise (wpAny_mono h (fun r s₁ h₁ => ?_) fun _ _ e => wpAny_standAt e))))
  cases r with
  | none => exact h₁
  | some v =>
    refine seg_bind_wrap (wpAny_of_eq (ht v) (seg_bind_wrap (wpAny_mono h₁ (fun _ s₂ h₂ => ?_) fun _ _ e => e)))
    rw [Sem.bind_eq_wrap', Sem.wrap_wrap]
    exact Eq.mp (congrArg (fun t => Seg (model prog w) A R Y n s₀ (.forLoop target it body orelse env) t fs s₂) (Sem.wrap_congr (execs body env) id id (K := forK target it body orelse env) (H := forH env) (fun f => by cases f <;> rfl) (fun e => rfl))) h₂
end
end Mine
end
section
open PySem PySem.W PyProof.Rows PySem.Calls PySem.Spec
namespace Mine
structure GS (base : Heap) (Lg I c : Addr) (items : Array Value) (i : Nat) (m : Str → Option Value) (h : Heap) : Prop where
  base : ∀ b o, base.get? b = some o → h.get? b = some o
  ns : h.Ns Lg m
  it : h.IsListIter I c i
  ls : h.IsList c items
def GFoot (base : Heap) (Lg I c : Addr) (h h' : Heap) : Prop := (∀ b o, base.get? b = some o → h'.get? b = some o) ∧ ∀ b, (b = Lg ∨ b = I ∨ b = c) → ∀ o, h.get? b = some o → h'.get? b = some o
theorem GS.foot {base : Heap} {Lg I c : Addr} {items : Array Value} {i : Nat} {m : Str → Option Value} {h h' : Heap} (x : GS base Lg I c items i m h) (f : GFoot base Lg I c h h') : GS base Lg I c items i m h' :=
  ⟨f.1, x.ns.at' fun o e => f.2 _ (.inl rfl) o e, x.it.at fun o e => f.2 _ (.inr (.inl rfl)) o e, x.ls.at fun o e => f.2 _ (.inr (.inr rfl)) o e⟩
theorem GS.next {base : Heap} {Lg I c : Addr} {items : Array Value} {i : Nat} {m : Str → Option Value} {h h' : Heap} (x : GS base Lg I c items i m h) (hI : base.get? I = none) (hL : Lg ≠ I) (hc : c ≠ I) (it : h'.IsListIter I c (i + 1)) (sb : Heap.SameBut I h h') : GS base Lg I c items (i + 1) m h' :=
  ⟨fun b o e => sb.extBut b o (fun q => by rw [q, hI] at e; cases e) (x.base b o e), x.ns.at' fun o e => sb.extBut _ o hL e, it, x.ls.at fun o e => sb.extBut _ o hc e⟩
theorem GS.set {base : Heap} {Lg I c : Addr} {items : Array Value} {i : Nat} {m m' : Str → Option Value} {h h' : Heap} (x : GS base Lg I c items i m h) (hI : base.get? Lg = none) (hL : Lg ≠ I) (hc : c ≠ Lg) (ns : h'.Ns Lg m') (sb : Heap.SameBut Lg h h') : GS base Lg I c items i m' h' :=
  ⟨fun b o e => sb.extBut b o (fun q => by rw [q, hI] at e; cases e) (x.base b o e), ns, x.it.at fun o e => sb.extBut _ o (Ne.symm hL) e, x.ls.at fun o e => sb.extBut _ o hc e⟩
def gr (n : Nat) : Option Int → List Int
  | some a => List.replicate n a
  | none => []
/-- what is told of the rest, at most n pieces -/
def gi : Nat → List Int → Option Int → List Int
  | 0, _, _ => []
  | _ + 1, [], _ => []
  | n + 1, k :: r, l => if k = 127 then [] else if k = 0 then gr (n + 1) l else k :: gi n r (some k)
theorem gi_len : ∀ (n : Nat) (l : List Int) (o : Option Int), (gi n l o).length ≤ n
  | 0, _, _ => Nat.le_refl _
  | _ + 1, [], _ => Nat.zero_le _
  | n + 1, k :: r, o => by
    rw [gi]
    split
    · exact Nat.zero_le _
    · split
      · cases o with
        | none => exact Nat.zero_le _
        | some a => rw [gr, List.length_replicate]; exact Nat.le_refl _
      · rw [List.length_cons]; exact Nat.succ_le_succ (gi_len n r _)
def giEnd (Lg I : Addr) (O : List Int) (N : Nat) : GenEnd := fun n s₀ r s₁ => r = .ok (.ret .none) ∧ O.length + n ≤ N ∧ GenSince Lg [I] s₀ s₁
def giProto (base : Heap) (Lg I c : Addr) (O : List Int) (N : Nat) : Protocol := fun n s₀ v s kap =>
  (∃ o t, O[N - (n + 1)]? = some o ∧ v = .int o t) ∧ GenSince Lg [I] s₀ s ∧ (0 < n → ∀ s'' : Shared, GFoot base Lg I c s.heap s''.heap → kap (.send .none) s'')
def lastIs (li : Str) (m : Str → Option Value) : Option Int → Prop
  | none => m li = some .none
  | some l => ∃ t, m li = some (.int l t)
theorem drop_cons {α : Type} {l r : List α} {j : Nat} {a : α} (h : l.drop j = a :: r) : l[j]? = some a ∧ l.drop (j + 1) = r := by
  constructor
  · have := congrArg (fun x => x[0]?) h
    simpa using this
  · have := congrArg (fun x => x.drop 1) h
    simpa [Nat.add_comm] using this
section
variable {prog : Program} {w : World} {A : Around} {base : Heap} {Lg I c : Addr} {items : Array Value} {O : List Int} {N : Nat} {env : Env} {li x cm : Str}
theorem seg_giWhile {fs : List Frame} {i : Nat} {l : Int} {t : Tok} {kb : Nat} {pb pn py pe : PySem.Pos} (hlk : env.kindOf li = some .local) (hkf : env.scope.kind = .function) (hL : env.locals = Lg) (hco : env.scope.isCoroutine = false) (hin : interactive env = false) (hdb : (li == ("__debug__" : Str)) = false)
    (hfs : splitAtGen fs = none) (hfg : fs.any Frame.guarded = false) : ∀ (n : Nat) (s₀ s : Shared) (m : Str → Option Value), GS base Lg I c items i m s.heap → m li = some (.int l t) → GenSince Lg [I] s₀ s → O.drop (N - (n + 1)) = List.replicate (n + 1) l → n + 1 ≤ N →
    Seg (model prog w) A (giEnd Lg I O N) (giProto base Lg I c O N) (n + 1) s₀ (.whileLoop (.Constant (.bool true) kb pb) [.Expr (.Yield (some (.Name li pn)) py) pe] [] env) ((model prog w).den (.whileLoop (.Constant (.bool true) kb pb) [.Expr (.Yield (some (.Name li pn)) py) pe] [] env)) fs s := by
  subst hL
  intro n
  induction n with
  | zero =>
    intro s₀ s m G hm hs hO hN
    refine seg_whileLoop (wpAny_isTrue_value (wpAny_Constant_bool (wpAny_truthy_bool ?_)))
    rw [if_pos rfl]
    refine seg_execs_cons (seg_Expr_Yield hfs rfl hfg (wpAny_Name (wpAny_loadName_local hkf hlk G.ns hm fun kap hkap => ?_) hdb) hco hin)
    exact ⟨⟨l, t, (drop_cons (hO.trans List.replicate_succ)).1, rfl⟩, hs, fun q => absurd q (Nat.lt_irrefl 0)⟩
  | succ n ih =>
    intro s₀ s m G hm hs hO hN
    refine seg_whileLoop (wpAny_isTrue_value (wpAny_Constant_bool (wpAny_truthy_bool ?_)))
    rw [if_pos rfl]
    refine seg_execs_cons (seg_Expr_Yield hfs rfl hfg (wpAny_Name (wpAny_loadName_local hkf hlk G.ns hm fun kap hkap => ?_) hdb) hco hin)
    have hd := drop_cons (hO.trans List.replicate_succ)
    refine ⟨⟨l, t, hd.1, rfl⟩, hs, fun _ s'' hf => hkap _ _ ?_⟩
    refine seg_again rfl (ih s'' s'' m (G.foot hf) hm (GenSince.refl _ _ _) ?_ (by omega))
    rw [show N - (n + 1) = N - (n + 1 + 1) + 1 by omega]
    exact hd.2
/-- the generator's loop -/
theorem seg_giLoop {fs : List Frame} {zs : List Int} {tcm : Tok} {B12 : List Stmt} {k7 k10 k14 : Nat} {px p1 p2 p3 p4 p5 p6 p7 p8 p9 p10 p11 p13 p14 p15 p16 p17 p18 p19 p20 p21 p22 p23 p24 p25 : PySem.Pos}
    (_hh : A.handled = none) (hxk : env.kindOf x = some .local) (hlk : env.kindOf li = some .local) (hkf : env.scope.kind = .function) (hL : env.locals = Lg) (hco : env.scope.isCoroutine = false) (hin : interactive env = false) (hdb : (li == ("__debug__" : Str)) = false) (hdx : (x == ("__debug__" : Str)) = false) (hxl : li ≠ x)
    (hcm : ∀ (A' : Around) (E' : Value → Shared → Prop) (s' : Shared) (Q : Value → Shared → Prop) (m' : Str → Option Value), (∀ b o, base.get? b = some o → s'.heap.get? b = some o) → s'.heap.Ns Lg m' → Q (.int 127 tcm) s' → wpAny (model prog w) A' (eval (.Name cm p2) env) Q E' s')
    (hbI : base.get? I = none) (hbL : base.get? Lg = none) (hLI : Lg ≠ I) (hcI : c ≠ I) (hcL : c ≠ Lg) (hz : IntsAre items.toList zs)
    (hsw : swapsWith (.Name x p24) (some (.Name li p23)) p25.line env = pure false)
    (hfs : splitAtGen fs = none) (hfg : fs.any Frame.guarded = false)
    (hmk : ∀ C : Code, (A.over C fs).handled = none)
    (hend : ∀ (n : Nat) (s₀ s : Shared) (C : Code) (f : Flow), (f = .next ∨ f = .ret .none) → giEnd Lg I O N n s₀ (.ok (.ret .none)) s → Seg (model prog w) A (giEnd Lg I O N) (giProto base Lg I c O N) n s₀ C (leafOf (.ok f)) fs s) :
    ∀ (n i : Nat) (s₀ s : Shared) (m : Str → Option Value) (last : Option Int), GS base Lg I c items i m s.heap → lastIs li m last → GenSince Lg [I] s₀ s → O.drop (N - (n + 1)) = gi (n + 1) (zs.drop i) last → n + 1 ≤ N → (last = none → (zs.drop i).head? ≠ some 0) →
    Seg (model prog w) A (giEnd Lg I O N) (giProto base Lg I c O N) (n + 1) s₀ (.forLoop (.Name x px) (.ref I)
      [.If (.Compare (.Name x p1) [.Eq] [.Name cm p2] p3) [.Return none p4] [] p5, .If (.Compare (.Name x p6) [.Eq] [.Constant (.int 0) k7 p7] p8) [.If (.Compare (.Name li p9) [.Is] [.Constant .none k10 p10] p11) B12 [] p13, .While (.Constant (.bool true) k14 p14) [.Expr (.Yield (some (.Name li p15)) p16) p17] [] p18] [] p19,
        .Expr (.Yield (some (.Name x p20)) p21) p22, .Assign [.Name li p23] (.Name x p24) p25] [] env)
      ((model prog w).den (.forLoop (.Name x px) (.ref I)
      [.If (.Compare (.Name x p1) [.Eq] [.Name cm p2] p3) [.Return none p4] [] p5, .If (.Compare (.Name x p6) [.Eq] [.Constant (.int 0) k7 p7] p8) [.If (.Compare (.Name li p9) [.Is] [.Constant .none k10 p10] p11) B12 [] p13, .While (.Constant (.bool true) k14 p14) [.Expr (.Yield (some (.Name li p15)) p16) p17] [] p18] [] p19,
        .Expr (.Yield (some (.Name x p20)) p21) p22, .Assign [.Name li p23] (.Name x p24) p25] [] env)) fs s := by
  subst hL
  have hp : (env.scope.kind == .class || (env.scope.kind == .module && env.locals != env.globals)) = false := by rw [hkf]; rfl
  intro n
  induction n using Nat.strongRecOn with
  | _ n ih =>
    intro i s₀ s m last G hlast hs hO hN hfirst
    by_cases hi : i < items.size
    · have hiz : i < zs.length := by rw [← hz.length]; simpa using hi
      obtain ⟨t, ht⟩ := hz.get i zs[i] (by simp [hiz])
      have hit : items[i]? = some (.int zs[i] t) := by simpa using ht
      have hdrop : zs.drop i = zs[i] :: zs.drop (i + 1) := List.drop_eq_getElem_cons hiz
      rw [hdrop] at hO hfirst
      generalize zs[i] = k at *
      refine seg_forLoop (wpAny_pyNext_list_item G.it G.ls hit fun h₁ it₁ sb₁ => ?_)
      have G₁ := G.next hbI hLI hcI it₁ sb₁
      have S₁ : GenSince env.locals [I] s₀ { s with heap := h₁ } := hs.step (tk := s.toks) fun b o _ hw e => sb₁.extBut b o (fun q => hw (q ▸ .head _)) e
      refine wpAny_assign_Name (wpAny_storeName_local hxk G₁.ns (fun h₂ hn₂ sb₂ => ?_) hp)
      have G₂ := G₁.set hbL hLI hcL hn₂ sb₂
      have S₂ : GenSince env.locals [I] s₀ { s with heap := h₂, toks := s.toks + 1 } := S₁.step fun b o hC _ e => sb₂.extBut b o hC e
      have hx2 : (fun y : Str => if y = x then some (Value.int k t) else m y) x = some (.int k t) := by simp
      have hl2 : (fun y : Str => if y = x then some (Value.int k t) else m y) li = m li := by simp [hxl]
      have hlast2 : lastIs li (fun y : Str => if y = x then some (Value.int k t) else m y) last := by
        cases last with
        | none => exact hl2.trans hlast
        | some l => obtain ⟨t', h'⟩ := hlast; exact ⟨t', hl2.trans h'⟩
      generalize (fun y : Str => if y = x then some (Value.int k t) else m y) = m₂ at *
      -- the first test
      refine seg_stmt (wpAny_If (wpAny_isTrue_Compare1 (wpAny_Name (wpAny_loadName_local hkf hxk G₂.ns hx2 (hcm _ _ _ _ _ G₂.base G₂.ns (eq_int (wpAny_truthy_bool ?_)))) hdx)))
      by_cases h127 : k = 127
      · rw [if_pos (by rw [h127]; rfl)]
        refine wpAny_execs_cons (wpAny_Return_none ?_)
        refine hend _ _ _ _ _ (.inr rfl) ⟨rfl, ?_, S₂⟩
        have : O.drop (N - (n + 1)) = [] := by rw [hO, gi, if_pos h127]
        have := List.drop_eq_nil_iff.mp this
        omega
      · rw [if_neg (by simpa using h127)]
        refine wpAny_execs_nil ?_
        show Seg _ _ _ _ _ _ _ _ _ _
        refine seg_execs_cons (seg_If (wpAny_isTrue_Compare1 (wpAny_Name (wpAny_loadName_local hkf hxk G₂.ns hx2 (wpAny_Constant_int (eq_int (wpAny_truthy_bool ?_)))) hdx)))
        by_cases h0 : k = 0
        · rw [if_pos (by rw [h0]; rfl)]
          cases last with
          | none => exact absurd (by rw [h0]; rfl) (hfirst rfl)
          | some l =>
            obtain ⟨tl, hl⟩ := hlast2
            refine seg_stmt (wpAny_If (wpAny_isTrue_Compare1 (wpAny_Name (wpAny_loadName_local hkf hlk G₂.ns hl (wpAny_Constant_none (is_none (wpAny_truthy_bool ?_)))) hdb)))
            rw [if_neg (show ¬ ((Value.int l tl == Value.none) = true) from Bool.false_ne_true)]
            refine wpAny_execs_nil ?_
            show Seg _ _ _ _ _ _ _ _ _ _
            refine seg_execs_cons (seg_While fun p => ?_)
            refine seg_giWhile (i := i + 1) (l := l) (t := tl) (m := m₂) hlk hkf rfl hco hin hdb ?_ ?_ n _ _ ⟨G₂.base, G₂.ns, G₂.it, G₂.ls⟩ hl (S₂.step fun _ _ _ _ e => e) ?_ hN
            · show (splitAtGen fs).map _ = none
              rw [hfs]; rfl
            · rw [List.any_cons, hfg]; rfl
            · rw [hO, gi, if_neg h127, if_pos h0]; rfl
        · rw [if_neg (by simpa using h0)]
          show Seg _ _ _ _ _ _ _ _ _ _
          have hO2 : O.drop (N - (n + 1)) = k :: gi n (zs.drop (i + 1)) (some k) := by rw [hO, gi, if_neg h127, if_neg h0]
          have hd := drop_cons hO2
          refine seg_execs_cons (seg_Expr_Yield hfs rfl hfg (wpAny_Name (wpAny_loadName_local hkf hxk G₂.ns hx2 fun kap hkap => ?_) hdx) hco hin)
          refine ⟨⟨k, t, hd.1, rfl⟩, S₂.step fun _ _ _ _ e => e, fun hn s'' hf => hkap _ _ ?_⟩
          obtain ⟨n', rfl⟩ : ∃ n', n = n' + 1 := ⟨n - 1, by omega⟩
          have G₃ : GS base env.locals I c items (i + 1) m₂ s''.heap := GS.foot ⟨G₂.base, G₂.ns, G₂.it, G₂.ls⟩ hf
          show Seg _ _ _ _ _ _ _ _ _ _
          refine seg_stmt (wpAny_Assign_Name (wpAny_Name (wpAny_loadName_local hkf hxk G₃.ns hx2 (wpAny_storeName_local hlk G₃.ns (fun h₄ hn₄ sb₄ => ?_) hp)) hdx) hsw)
          have G₄ := G₃.set hbL hLI hcL hn₄ sb₄
          refine seg_again rfl (ih n' (by omega) (i + 1) _ _ _ (some k) G₄ ⟨t, by simp⟩ ((GenSince.refl _ _ _).step fun b o hC _ e => sb₄.extBut b o hC e) ?_ (by omega) (fun q => by cases q))
          rw [show N - (n' + 1) = N - (n' + 1 + 1) + 1 by omega]
          exact hd.2
    · have hiz : ¬ i < zs.length := by rw [← hz.length]; simpa using hi
      refine seg_forLoop (wpAny_pyNext_list_end (hmk _) G.it G.ls (by simpa using hi) fun h₁ he₁ => ?_)
      refine seg_again rfl ?_
      refine hend _ _ _ _ .next (.inl rfl) ⟨rfl, ?_, hs.step (tk := s.toks) fun b o _ hw e => he₁ b o (fun q => hw (q ▸ .head _)) e⟩
      have : O.drop (N - (n + 1)) = [] := by rw [hO, List.drop_of_length_le (by omega)]; rfl
      have := List.drop_eq_nil_iff.mp this
      omega
end
end Mine
end
section
open PySem PySem.W PyProof.Rows PySem.Calls PySem.Spec
namespace Mine
section
variable {prog : Program} {w : World} {A : Around} {E : Value → Shared → Prop} {s : Shared}
theorem nextOf_range_item {it : Addr} {x left step : Int} {Q : Value → Shared → Prop} (hit : IsRangeIter s.heap it x left step) (hleft : 0 < left)
    (hQ : ∀ h', IsRangeIter h' it (x + step) (left - 1) step → Heap.SameBut it s.heap h' → Q (.int x s.toks) { s with heap := h', toks := s.toks + 1 }) :
    wpAny (model prog w) A (Builtin.SmallTypes.nextOf (.ref it)) Q E s := by
  have hT : s.TypeIs (.ref it) "range_iterator" := ⟨_, hit, rfl⟩
  unfold Builtin.SmallTypes.nextOf
  refine wpAny_bind (wpAny_callSpecial?_slot (name := Str.ofString "__next__") hT F.slot_range_iterator_next
    (call_meets F.slot_range_iterator_next hT F.entry_range_iterator_next (F.args_range_iterator_next_1 _) (AutoRange.range_iterator___next___range_iterator_1 it x left step (by omega)) ⟨hit, ?_⟩))
  exact wpAny_pure (hQ _ (Heap.get?_update_self _ (Heap.get?_update_self _ hit rfl) rfl) ((Heap.SameBut.update ..).trans (Heap.SameBut.update ..)))
theorem nextOf_range_end {it : Addr} {x left step : Int} {Q : Value → Shared → Prop} (hh : A.handled = none) (hit : IsRangeIter s.heap it x left step) (hleft : left ≤ 0)
    (hE : ∀ h' e, (∀ b o, s.heap.get? b = some o → h'.get? b = some o) → (∃ o, h'.get? e = some o ∧ o.cls = .type "StopIteration") → E (.ref e) { s with heap := h' }) : wpAny (model prog w) A (Builtin.SmallTypes.nextOf (.ref it)) Q E s := by
  have hT : s.TypeIs (.ref it) "range_iterator" := ⟨_, hit, rfl⟩
  unfold Builtin.SmallTypes.nextOf
  refine wpAny_bind (wpAny_callSpecial?_slot (name := Str.ofString "__next__") hT F.slot_range_iterator_next
    (wpAny_call_entry F.slot_range_iterator_next hT F.entry_range_iterator_next ?_ (F.args_range_iterator_next_1 _)))
  show wpAny _ _ (field (.ref it) 0 >>= _) _ _ s
  refine wpAny_bind (wpAny_field hit rfl (x := rawInt x) rfl ?_)
  show wpAny _ _ (field (.ref it) 1 >>= _) _ _ s
  refine wpAny_bind (wpAny_field hit rfl (x := rawInt left) rfl ?_)
  show wpAny _ _ (field (.ref it) 2 >>= _) _ _ s
  refine wpAny_bind (wpAny_field hit rfl (x := rawInt step) rfl ?_)
  show wpAny _ _ (if left ≤ 0 then _ else _) _ _ s
  rw [if_pos hleft]
  refine wpAny_bind (wpAny_rule ?_)
  refine wpAny_bind ?_
  show wpAny _ _ (newExc (.type "StopIteration") [] >>= _) _ _ _
  refine wpAny_bind ?_
  simp only [newExc, newTuple]
  refine wpAny_bind (wpAny_newObj_type ?_ (by size_fits))
  refine wpAny_bind (m := firstArgMember _ _) (wpAny_of_eq (a := Value.none) (by first | rfl | (simp only [firstArgMember]; rfl)) ?_)
  refine wpAny_newObj_type ?_ (by size_fits)
  simp only [raiseNew]
  refine wpAny_bind (wpAny_handled ?_)
  first | rw [show A.in1.handled = none from hh] | rw [hh]
  refine wpAny_bind (wpAny_pure (wpAny_throw ?_))
  exact hE _ _ (fun b o e => Heap.get?_push_of_some _ (Heap.get?_push_of_some _ e)) ⟨_, Heap.get?_push_size _ rfl, rfl⟩
theorem nextOf_gen {a : Addr} {g n : Nat} {gs : GenState} {P : Nat → Shared → Shared → Prop} {R : GenEnd} {Y : Protocol} {Q : Value → Shared → Prop} (hh : A.handled = none)
    (hl : s.heap.NoLimit) (hroom : A.depth < recursionLimit) (hR : ∀ n s₀ r s₁, R n s₀ r s₁ → r = .ok (.ret .none) ∧ P n s₀ s₁)
    (hg : s.heap.IsGen a g) (hgs : s.gens[g]? = some gs)
    (hgo : gs.Goes (model prog w) A.in1 R Y n (.send .none) (s.setGen g .running))
    (hY : ∀ v s₁ gs', gs'.bare = true → Y (n - 1) (s.setGen g .running) v s₁ (fun r' s'' => match n with
        | 0 => False
        | m + 1 => gs'.Goes (model prog w) A.in1 R Y m r' s'') → Q v (s₁.setGen g gs'))
    (hE : ∀ s₁, P n (s.setGen g .running) s₁ → ∀ h' e, (∀ b o, s₁.heap.get? b = some o → h'.get? b = some o) → (∃ o, h'.get? e = some o ∧ o.cls = .type "StopIteration") → E (.ref e) { s₁.setGen g .finished with heap := h' }) :
    wpAny (model prog w) A (Builtin.SmallTypes.nextOf (.ref a)) Q E s := by
  unfold Builtin.SmallTypes.nextOf
  refine wpAny_bind (wpAny_callSpecial?_slot (name := Str.ofString "__next__") hg.typeIs slot_gen_next
    (wpAny_call_entry slot_gen_next hg.typeIs entry_gen_next ?_ (args_gen_next _)))
  show wpAny _ A.in1 (Builtin.Generator.genWake (.ref a) (.send .none)) _ _ s
  unfold Builtin.Generator.genWake
  refine wpAny_bind (wpAny_holding (wpAny_genNumber hg (wpAny_bind (wpAny_genState hgs ?_))))
  cases gs with
  | running => exact hgo.elim
  | finished => exact hgo.elim
  | _ =>
    refine wpAny_bind (wpAny_roomToWake hl hroom ?_)
    show wpAny _ A.in1 (.resume g (.send .none) [] _) _ _ s
    refine wpAny_resumeQ hgs hgo (fun x s₁ hx => ?_) (fun v s₁ gs' hb hv => ?_)
    · obtain ⟨rfl, hp⟩ := hR _ _ _ _ hx
      show wpAny _ A.in1 (newExc (.type "StopIteration") [] >>= _) _ _ _
      refine wpAny_bind ?_
      simp only [newExc, newTuple]
      refine wpAny_bind (wpAny_newObj_type ?_ (by size_fits))
      refine wpAny_bind (m := firstArgMember _ _) (wpAny_of_eq (a := Value.none) (by first | rfl | (simp only [firstArgMember]; rfl)) ?_)
      refine wpAny_newObj_type ?_ (by size_fits)
      simp only [raiseNew]
      refine wpAny_bind (wpAny_bind (wpAny_handled ?_))
      first | rw [show A.in1.handled = none from hh] | rw [hh]
      refine wpAny_throw ?_
      exact hE s₁ hp _ _ (fun b o hb => Heap.get?_push_of_some _ (Heap.get?_push_of_some _ hb)) ⟨_, Heap.get?_push_size _ rfl, rfl⟩
    · exact wpAny_pure ⟨v, rfl, wpAny_pure (hY v s₁ gs' hb hv)⟩
/-- a zip's step over two iterators -/
theorem zip_next2 {z TI TO i1 i2 : Addr} {a b : Value} {Q : Value → Shared → Prop} (hTz : TI ≠ z) (hTOz : TO ≠ z) (hz : IsZip s.heap z TI TO .none) (hTI : IsPair s.heap TI (.ref i1) (.ref i2)) (hTO : IsPair s.heap TO a b)
    (h1 : ∀ h₁, IsZip h₁ z TI TO .ellipsis → Heap.SameBut z s.heap h₁ → wpAny (model prog w) A (Builtin.SmallTypes.nextOf (.ref i1)) (fun x s₂ => IsPair s₂.heap TO a b ∧ ∀ h₃, IsPair h₃ TO x b → Heap.SameBut TO s₂.heap h₃ →
      wpAny (model prog w) A (Builtin.SmallTypes.nextOf (.ref i2)) (fun y s₄ => IsPair s₄.heap TO x b ∧ IsZip s₄.heap z TI TO .ellipsis ∧ ∀ h₅, Heap.SameBut TO s₄.heap h₅ → IsPair h₅ TO x y →
        ∀ h₈, IsZip h₈ z TI TO (rawInt h₅.objs.size) → IsPair h₈ h₅.objs.size x y → (∀ c o, c ≠ z → h₅.get? c = some o → h₈.get? c = some o) → Q (.ref h₅.objs.size) { s₄ with heap := h₈ })
        (fun e s' => IsZip s'.heap z TI TO .ellipsis ∧ ∀ h', Heap.SameBut z s'.heap h' → E e { s' with heap := h' }) { s₂ with heap := h₃ })
      (fun e s' => IsZip s'.heap z TI TO .ellipsis ∧ ∀ h', Heap.SameBut z s'.heap h' → E e { s' with heap := h' }) { s with heap := h₁ }) :
    wpAny (model prog w) A (Builtin.«zip.__next__» ⟨[.ref z], []⟩) (fun fin s' => ∃ v, fin = .done (.ret v) ∧ Q v s') E s := by
  show wpAny _ _ (field (.ref z) 2 >>= _) _ _ _
  refine wpAny_bind (wpAny_field hz rfl (x := .bool false) rfl ?_)
  show wpAny _ _ (field (.ref z) 3 >>= _) _ _ _
  refine wpAny_bind (wpAny_field hz rfl (x := .ref TI) rfl ?_)
  refine wpAny_bind (wpAny_seqItems hTI rfl ?_)
  show wpAny _ _ (Builtin.SmallTypes.ownedTupleIsFree (.ref z) >>= _) _ _ _
  refine wpAny_bind ?_
  unfold Builtin.SmallTypes.ownedTupleIsFree
  refine wpAny_bind (wpAny_field hz rfl (x := .none) rfl (wpAny_pure ?_))
  simp only [if_true]
  refine wpAny_bind (wpAny_rule ?_)
  refine wpAny_bind (wpAny_field hz rfl (x := .ref TO) rfl ?_)
  refine wpAny_bind (wpAny_setField_rec hz (by simp) fun h₁ hz₁ hs₁ => ?_)
  replace hz₁ : IsZip h₁ z TI TO .ellipsis := hz₁
  refine wpAny_bind ?_
  simp only [List.zipIdx_cons, List.zipIdx_nil, List.forIn_cons, List.forIn_nil]
  refine wpAny_bind (wpAny_bind (wpAny_onRaise ?_))
  show wpAny _ _ (Builtin.SmallTypes.nextOf (.ref i1) >>= _) _ _ _
  refine wpAny_bind (wpAny_mono (h1 h₁ hz₁ hs₁) (fun x s₂ hx => wpAny_pure ?_) fun e s' he => ?_)
  rotate_left
  · exact wpAny_setField_rec he.1 (by simp) fun h' _ hs' => he.2 h' hs'
  obtain ⟨hTO₂, h2⟩ := hx
  refine wpAny_bind (wpAny_seqItems hTO₂ rfl ?_)
  refine wpAny_bind (wpAny_updateSeq_pair hTO₂ fun h₃ hTO₃ hs₃ => ?_)
  replace hTO₃ : IsPair h₃ TO x b := hTO₃
  refine wpAny_bind (wpAny_letGo (wpAny_pure ?_))
  refine wpAny_bind (wpAny_bind (wpAny_onRaise ?_))
  show wpAny _ _ (Builtin.SmallTypes.nextOf (.ref i2) >>= _) _ _ _
  refine wpAny_bind (wpAny_mono (h2 h₃ hTO₃ hs₃) (fun y s₄ hy => wpAny_pure ?_) fun e s' he => ?_)
  rotate_left
  · exact wpAny_setField_rec he.1 (by simp) fun h' _ hs' => he.2 h' hs'
  obtain ⟨hTO₄, hz₄, h3⟩ := hy
  refine wpAny_bind (wpAny_seqItems hTO₄ rfl ?_)
  refine wpAny_bind (wpAny_updateSeq_pair hTO₄ fun h₅ hTO₅ hs₅ => ?_)
  replace hTO₅ : IsPair h₅ TO x y := hTO₅
  refine wpAny_bind (wpAny_letGo (wpAny_pure (wpAny_pure ?_)))
  refine wpAny_bind (wpAny_seqItems hTO₅ rfl ?_)
  refine wpAny_bind (wpAny_newTuple ?_)
  have hz₅ : IsZip h₅ z TI TO .ellipsis := hs₅.extBut _ _ (Ne.symm hTOz) hz₄
  have hzlt : z < h₅.objs.size := Heap.lt_size hz₅
  show wpAny _ _ (Builtin.SmallTypes.ownedTupleHandOut (.ref z) (.ref h₅.objs.size) >>= _) _ _ _
  refine wpAny_bind ?_
  unfold Builtin.SmallTypes.ownedTupleHandOut
  have hz₆ : IsZip (h₅.push { cls := .type "tuple", data := .seq #[x, y] }) z TI TO .ellipsis := Heap.get?_push_of_some _ hz₅
  refine wpAny_bind (wpAny_setField_rec hz₆ (by simp) fun h₇ hz₇ hs₇ => ?_)
  replace hz₇ : IsZip h₇ z TI TO (rawInt h₅.objs.size) := hz₇
  refine wpAny_setField_rec hz₇ (by simp) fun h₈ hz₈ hs₈ => ?_
  replace hz₈ : IsZip h₈ z TI TO (rawInt h₅.objs.size) := hz₈
  have up : ∀ c o, c ≠ z → h₅.get? c = some o → h₈.get? c = some o := fun c o c1 e => hs₈.extBut _ _ c1 (hs₇.extBut _ _ c1 (Heap.get?_push_of_some _ e))
  have hT₈ : IsPair h₈ h₅.objs.size x y := hs₈.extBut _ _ (Nat.ne_of_gt hzlt) (hs₇.extBut _ _ (Nat.ne_of_gt hzlt) (Heap.get?_push_size _ rfl))
  exact wpAny_pure ⟨_, rfl, h3 h₅ hs₅ hTO₅ h₈ hz₈ hT₈ up⟩
/-- a zip asked for its next pair -/
theorem pyNext_zip2 {z TI TO i1 i2 : Addr} {a b : Value} {Q : Option Value → Shared → Prop} (hTz : TI ≠ z) (hTOz : TO ≠ z) (hz : IsZip s.heap z TI TO .none) (hTI : IsPair s.heap TI (.ref i1) (.ref i2)) (hTO : IsPair s.heap TO a b)
    (h1 : ∀ h₁, IsZip h₁ z TI TO .ellipsis → Heap.SameBut z s.heap h₁ → wpAny (model prog w) A.in1 (Builtin.SmallTypes.nextOf (.ref i1)) (fun x s₂ => IsPair s₂.heap TO a b ∧ ∀ h₃, IsPair h₃ TO x b → Heap.SameBut TO s₂.heap h₃ →
      wpAny (model prog w) A.in1 (Builtin.SmallTypes.nextOf (.ref i2)) (fun y s₄ => IsPair s₄.heap TO x b ∧ IsZip s₄.heap z TI TO .ellipsis ∧ ∀ h₅, Heap.SameBut TO s₄.heap h₅ → IsPair h₅ TO x y →
        ∀ h₈, IsZip h₈ z TI TO (rawInt h₅.objs.size) → IsPair h₈ h₅.objs.size x y → (∀ c o, c ≠ z → h₅.get? c = some o → h₈.get? c = some o) → Q (some (.ref h₅.objs.size)) { s₄ with heap := h₈ })
        (fun e s' => IsZip s'.heap z TI TO .ellipsis ∧ ∀ h', Heap.SameBut z s'.heap h' → (∃ x o, e = .ref x ∧ h'.get? x = some o ∧ o.cls = .type "StopIteration") ∧ Q none { s' with heap := h' }) { s₂ with heap := h₃ })
      (fun e s' => IsZip s'.heap z TI TO .ellipsis ∧ ∀ h', Heap.SameBut z s'.heap h' → (∃ x o, e = .ref x ∧ h'.get? x = some o ∧ o.cls = .type "StopIteration") ∧ Q none { s' with heap := h' }) { s with heap := h₁ }) :
    wpAny (model prog w) A (pyNext (.ref z)) Q E s := by
  have hT : s.TypeIs (.ref z) "zip" := ⟨_, hz, rfl⟩
  unfold pyNext
  refine wpAny_bind (wpAny_attempt (wpAny_callSpecial?_slot (name := Str.ofString "__next__") hT F.slot_zip_next
    (wpAny_call_entry F.slot_zip_next hT F.entry_zip_next (wpAny_mono (zip_next2 (Q := fun v s' => Q (some v) s') (E := fun e s' => (∃ x o, e = .ref x ∧ s'.heap.get? x = some o ∧ o.cls = .type "StopIteration") ∧ Q none s') hTz hTOz hz hTI hTO h1) (fun fin s' hf => ?_) fun e s' he => ?_) (F.args_zip_next_1 _))))
  · obtain ⟨v, rfl, q⟩ := hf
    exact ⟨v, rfl, wpAny_pure q⟩
  · obtain ⟨⟨x, o, rfl, ho, hc⟩, q⟩ := he
    refine wpAny_bind (wpAny_isInstance (T := "StopIteration") (b := true) ⟨o, ho, hc⟩ isSubtype_stop ?_)
    exact wpAny_pure q
end
end Mine
end
section
open PySem PySem.W PyProof.Rows PySem.Calls PySem.Spec
namespace Mine
section
variable {prog : Program} {w : World} {dp un : Nat} {gd : Option (List Code)} {outer : List Env} {s : Shared} {K : Frag} {p : Program} {loose : List Str} {mean : ExcName → Option Value} {mg mb : Str → Option Value} {R : Result → Shared → Prop}
  {name qual : Str} {params : Arguments} {body : List Stmt} {scope : Scope} {dV kV doc pm cdv ct oc : Value} {an od : Option Addr} {osl : Array (Option Value)} {f : Addr} {args : Args} {binds : List (Str × Value)}
/-- a call of a generator's def: nothing runs -/
theorem enter_gen (X : K.In s.heap) (T : Top p loose mean mg mb s.heap)
    (ho : K.lookup f = some ⟨oc, od, .func (fnOf name qual params body scope dV kV doc pm an cdv ct), osl⟩) (hcd : codeIn K cdv qual = true) (hroom : dp < recursionLimit)
    (hbind : BindsTo s (fnOf name qual params body scope dV kV doc pm an cdv ct) args binds) (hloc : ∀ y ∈ binds, scope.names.lookup y.1 = some .local)
    (h : ∀ h₁ tk, h₁.Ns s.heap.objs.size (fun y => binds.reverse.lookup y) → (∀ b o, s.heap.get? b = some o → h₁.get? b = some o) → h₁.objs.size = s.heap.objs.size + 2 → h₁.IsGen (s.heap.objs.size + 1) s.gens.size →
      R (.ok (.ret (.ref (s.heap.objs.size + 1)))) { s with gens := s.gens.push (.fresh (.func body (envOf qual scope s.heap.objs.size f cdv))), heap := h₁, toks := tk })
    (hco : scope.isCoroutine = false) (hgen : scope.isGenerator = true) (hk : scope.kind = .function) (hcell : ∀ x ∈ scope.names, x.2 ≠ .cell) :
    codeAny (model prog w) (Ar dp un gd outer) (.call (.ref f) args) R s := by
  refine codeAny_call_generator (fd := fnOf name qual params body scope dV kV doc pm an cdv ct) (body := body) hroom (X _ _ ho) rfl hco hgen rfl (codeRec_of X hcd) (hbind _ _ _ _ ?_)
  refine wpAny_newFunctionEnv hcell hloc (fun h₁ hns hsb => ?_) hk
  have keep : ∀ b o, s.heap.get? b = some o → h₁.get? b = some o := fun b o e => hsb.extBut b o (Nat.ne_of_lt (Heap.lt_size e)) (Heap.get?_push_of_some _ e)
  have hsz : h₁.objs.size = s.heap.objs.size + 1 := by rw [hsb.1, Heap.size_push]
  refine ⟨T.nolimit.keeps keep, ?_⟩
  have e1 := h (h₁.push { cls := .type "generator", data := .fields #[.int s.gens.size 0, .str name (s.toks + binds.length), .str qual (s.toks + binds.length + 1)] }) (s.toks + binds.length + 1 + 1) (hns.push _) (fun b o e => Heap.get?_push_of_some _ (keep b o e)) (by rw [Heap.size_push, hsz])
    (hsz ▸ ⟨_, _, _, Heap.get?_push_size _ rfl, rfl, rfl, rfl⟩)
  show R (.ok (.ret (.ref h₁.objs.size))) _
  rw [hsz]
  exact e1
end
section
variable {prog : Program} {w : World} {A : Around} {base : Heap} {Lg c : Addr} {items : Array Value} {env : Env} {li x cm grp : Str}
theorem seg_giStart {zs : List Int} {tcm : Tok} {B12 : List Stmt} {k0 k7 k10 k14 : Nat} {pa pb pc pd pe px p1 p2 p3 p4 p5 p6 p7 p8 p9 p10 p11 p13 p14 p15 p16 p17 p18 p19 p20 p21 p22 p23 p24 p25 : PySem.Pos}
    (hh : A.handled = none) (hxk : env.kindOf x = some .local) (hlk : env.kindOf li = some .local) (hgk : env.kindOf grp = some .local) (hkf : env.scope.kind = .function) (hL : env.locals = Lg) (hco : env.scope.isCoroutine = false) (hin : interactive env = false) (hdb : (li == ("__debug__" : Str)) = false) (hdx : (x == ("__debug__" : Str)) = false) (hdg : (grp == ("__debug__" : Str)) = false) (hxl : li ≠ x) (hgl : grp ≠ li)
    (hcm : ∀ (A' : Around) (E' : Value → Shared → Prop) (s' : Shared) (Q : Value → Shared → Prop) (m' : Str → Option Value), (∀ b o, base.get? b = some o → s'.heap.get? b = some o) → s'.heap.Ns Lg m' → Q (.int 127 tcm) s' → wpAny (model prog w) A' (eval (.Name cm p2) env) Q E' s')
    (hbL : base.objs.size ≤ Lg) (hcL : c ≠ Lg) (hz : IntsAre items.toList zs) (hz0 : zs.head? ≠ some 0)
    (hsw : swapsWith (.Name x p24) (some (.Name li p23)) p25.line env = pure false) (hsw0 : swapsWith (.Constant .none k0 pa) (some (.Name li pb)) pc.line env = pure false)
    (hfold : ∀ v, foldedSetIterable (.Name grp pd) env v = pure v)
    {s₀ s : Shared} {m : Str → Option Value} {n : Nat} (hb : ∀ b o, base.get? b = some o → s.heap.get? b = some o) (hn : s.heap.Ns Lg m) (hm : m grp = some (.ref c)) (hl : s.heap.IsList c items) (hs : GenSince Lg [s.heap.objs.size] s₀ s) :
    Seg (model prog w) A (giEnd Lg s.heap.objs.size (gi (n + 1) zs none) (n + 1)) (giProto base Lg s.heap.objs.size c (gi (n + 1) zs none) (n + 1)) (n + 1) s₀ (.func [.Assign [.Name li pb] (.Constant .none k0 pa) pc, .For (.Name x px) (.Name grp pd)
      [.If (.Compare (.Name x p1) [.Eq] [.Name cm p2] p3) [.Return none p4] [] p5, .If (.Compare (.Name x p6) [.Eq] [.Constant (.int 0) k7 p7] p8) [.If (.Compare (.Name li p9) [.Is] [.Constant .none k10 p10] p11) B12 [] p13, .While (.Constant (.bool true) k14 p14) [.Expr (.Yield (some (.Name li p15)) p16) p17] [] p18] [] p19,
        .Expr (.Yield (some (.Name x p20)) p21) p22, .Assign [.Name li p23] (.Name x p24) p25] [] pe] env)
      ((model prog w).den (.func [.Assign [.Name li pb] (.Constant .none k0 pa) pc, .For (.Name x px) (.Name grp pd)
      [.If (.Compare (.Name x p1) [.Eq] [.Name cm p2] p3) [.Return none p4] [] p5, .If (.Compare (.Name x p6) [.Eq] [.Constant (.int 0) k7 p7] p8) [.If (.Compare (.Name li p9) [.Is] [.Constant .none k10 p10] p11) B12 [] p13, .While (.Constant (.bool true) k14 p14) [.Expr (.Yield (some (.Name li p15)) p16) p17] [] p18] [] p19,
        .Expr (.Yield (some (.Name x p20)) p21) p22, .Assign [.Name li p23] (.Name x p24) p25] [] pe] env)) [] s := by
  subst hL
  have hp : (env.scope.kind == .class || (env.scope.kind == .module && env.locals != env.globals)) = false := by rw [hkf]; rfl
  have hLs := hn.lt
  have hcs : c < s.heap.objs.size := by obtain ⟨_, e, _⟩ := hl; exact Heap.lt_size e
  have none_of : ∀ a, base.objs.size ≤ a → base.get? a = none := fun a ha => by
    cases q : base.get? a with
    | none => rfl
    | some o => exact absurd (Heap.lt_size q) (Nat.not_lt.mpr ha)
  refine seg_func ?_
  refine seg_stmt (wpAny_Assign_Name (wpAny_Constant_none (wpAny_storeName_local hlk hn (fun h₁ hn₁ sb₁ => ?_) hp)) hsw0)
  have hm₁ : (fun y : Str => if y = li then some Value.none else m y) grp = some (.ref c) := by simp [hgl, hm]
  have hl₁ : h₁.IsList c items := hl.at fun o e => sb₁.extBut _ o hcL e
  have hb₁ : ∀ b o, base.get? b = some o → h₁.get? b = some o := fun b o e => sb₁.extBut b o (fun q => by rw [q, none_of _ hbL] at e; cases e) (hb b o e)
  have hI : h₁.objs.size = s.heap.objs.size := sb₁.1
  show Seg _ _ _ _ _ _ _ _ _ _
  refine seg_execs_cons (seg_For (wpAny_Name (wpAny_loadName_local hkf hgk hn₁ hm₁ (wpAny_pyIter_list hl₁ fun p => ?_)) hdg) hfold)
  show Seg _ _ _ _ _ _ (.forLoop (.Name x px) (.ref h₁.objs.size) _ _ _) _ _ _
  rw [hI]
  have hbI : base.get? s.heap.objs.size = none := none_of _ (Nat.le_trans hbL (Nat.le_of_lt hLs))
  refine seg_giLoop (m := fun y : Str => if y = li then some Value.none else m y) (last := none) (i := 0) hh hxk hlk hkf rfl hco hin hdb hdx hxl hcm hbI (none_of _ hbL) (Nat.ne_of_lt hLs) (Nat.ne_of_lt hcs) hcL hz hsw rfl rfl (fun _ => by exact hh) ?_ n _ _ ?_ ?_ ?_ ?_ (Nat.le_refl _) (fun _ => by simpa using hz0)
  · intro n' s₀' s' C f hf hR
    refine seg_leaf (.ok f) ?_
    rcases hf with rfl | rfl
    · exact seg_end (.ok (.ret .none)) hR
    · exact seg_end (.ok (.ret .none)) hR
  · refine ⟨fun b o e => Heap.get?_push_of_some _ (hb₁ b o e), hn₁.push _, ⟨_, by rw [← hI]; exact Heap.get?_push_size _ rfl, rfl, rfl⟩, hl₁.at fun o e => Heap.get?_push_of_some _ e⟩
  · show (if li = li then some Value.none else m li) = some .none
    rw [if_pos rfl]
  · exact hs.step fun b o hC _ e => Heap.get?_push_of_some _ (sb₁.extBut b o hC e)
  · rw [Nat.sub_self]; rfl
end
section
variable {prog : Program} {w : World} {A : Around} {E : Value → Shared → Prop} {s : Shared}
abbrev zipR1 (h : Heap) : Heap := h.push { cls := .type "range_iterator", data := .fields #[rawInt 0, rawInt 4, rawInt 1] }
abbrev zipR2 (h : Heap) (a : Addr) : Heap := (zipR1 h).push { cls := .type "tuple", data := .seq #[.ref h.objs.size, .ref a] }
abbrev zipR3 (h : Heap) (a : Addr) : Heap := (zipR2 h a).push { cls := .type "tuple", data := .seq #[.none, .none] }
abbrev zipR4 (h : Heap) (a : Addr) : Heap := (zipR3 h a).push { cls := .type "zip", data := .fields #[.none, .bool false, .bool false, .ref (zipR1 h).objs.size, .ref (zipR2 h a).objs.size] }
theorem meets_zip_rg (r a : Addr) (g : Nat) (t u v : Tok) :
    Meets (Builtin.«zip.__new__» ⟨[.type "zip", .ref r, .ref a], []⟩) (fun _ R s => IsRange s.heap r 0 4 1 t u v ∧ s.heap.IsGen a g ∧
      R (.ok (.ret (.ref (zipR3 s.heap a).objs.size))) { s with heap := zipR4 s.heap a }) :=
  .of_wp fun prog w A R s h => by
    obtain ⟨hp, g', d, tk, os⟩ := s; obtain ⟨hl1, hl2, h⟩ := h
    have hsub := sub_zip
    have hL1 : IsRange (Shared.heap ⟨hp, g', d, tk, os⟩) r 0 4 1 t u v := hl1
    have hsm : Builtin.Range.small 0 4 1 = true := by decide
    have hsz : Builtin.Range.rangeSize 0 4 1 = 4 := by decide
    have hL2 : Heap.IsGen (Shared.heap ⟨hp.push { cls := .type "range_iterator", data := .fields #[rawInt 0, rawInt (Builtin.Range.rangeSize 0 4 1), rawInt 1] }, g', d, tk, os⟩) a g := Heap.IsGen.push hl2 _
    wp_walk using wpAny_pyIter_range hL1 hsm, wpAny_pyIter_gen hL2
    exact ⟨_, rfl, h⟩
theorem call_zip_rg {r a : Addr} {g : Nat} {t u v : Tok} {Q : Value → Shared → Prop} (hl1 : IsRange s.heap r 0 4 1 t u v) (hl2 : s.heap.IsGen a g)
    (h : ∀ h', IsZip h' (s.heap.objs.size + 3) (s.heap.objs.size + 1) (s.heap.objs.size + 2) .none → IsPair h' (s.heap.objs.size + 1) (.ref s.heap.objs.size) (.ref a) →
      IsPair h' (s.heap.objs.size + 2) .none .none → IsRangeIter h' s.heap.objs.size 0 4 1 → h'.objs.size = s.heap.objs.size + 4 →
      (∀ c o, s.heap.get? c = some o → h'.get? c = some o) → Q (.ref (s.heap.objs.size + 3)) { s with heap := h' }) :
    wpAny (model prog w) A (call (.type "zip") [.ref r, .ref a]) Q E s := by
  refine callType_new F.called_zip (by decide) (F.typeCall_zip_2 _ _) (F.newCall_zip_2 _ _) (fun obj => F.args_object_init_3 obj _ _) F.entry_zip_new
    (meets_zip_rg r a g t u v) ⟨hl1, hl2, ?_⟩
  have z1 : (zipR1 s.heap).objs.size = s.heap.objs.size + 1 := Heap.size_push ..
  have z2 : (zipR2 s.heap a).objs.size = s.heap.objs.size + 2 := by rw [Heap.size_push, z1]
  have z3 : (zipR3 s.heap a).objs.size = s.heap.objs.size + 3 := by rw [Heap.size_push, z2]
  have z4 : (zipR4 s.heap a).objs.size = s.heap.objs.size + 4 := by rw [Heap.size_push, z3]
  have g4 : (zipR4 s.heap a).get? (zipR3 s.heap a).objs.size = some _ := Heap.get?_push_size _ rfl
  have g3 : (zipR4 s.heap a).get? (zipR2 s.heap a).objs.size = some _ := Heap.get?_push_of_some _ (Heap.get?_push_size _ rfl)
  have g2 : (zipR4 s.heap a).get? (zipR1 s.heap).objs.size = some _ := Heap.get?_push_of_some _ (Heap.get?_push_of_some _ (Heap.get?_push_size _ rfl))
  have g1 : (zipR4 s.heap a).get? s.heap.objs.size = some _ := Heap.get?_push_of_some _ (Heap.get?_push_of_some _ (Heap.get?_push_of_some _ (Heap.get?_push_size _ rfl)))
  show _ ∧ _
  rw [z1, z2, z3] at g4
  rw [z2] at g3
  rw [z1] at g2
  rw [z3]
  exact ⟨⟨_, g4, rfl⟩, h _ g4 g2 g3 g1 z4 fun c o x =>
    Heap.get?_push_of_some _ (Heap.get?_push_of_some _ (Heap.get?_push_of_some _ (Heap.get?_push_of_some _ x)))⟩
end
end Mine
end
section
open PySem PySem.W PyProof.Rows PySem.Calls
namespace Mine
local macro_rules | `(tactic| walk_at "mine G1 0") => `(tactic| fail)
local macro_rules | `(tactic| walk_at "mine G1 1") => `(tactic| fail)
local macro_rules | `(tactic| walk_at "mine G1 2") => `(tactic| fail)
local macro_rules | `(tactic| walk_at "mine G1 3") => `(tactic| fail)
local macro_rules | `(tactic| walk_at "mine G1 4") => `(tactic| fail)
local macro_rules | `(tactic| walk_at "mine G1 5") => `(tactic| fail)
local macro_rules | `(tactic| walk_at "mine G1 6") => `(tactic| fail)
local macro_rules | `(tactic| walk_at "mine G1 7") => `(tactic| fail)
local macro_rules | `(tactic| walk_at "mine G1 8") => `(tactic| fail)
local macro_rules | `(tactic| walk_at "mine G1 9") => `(tactic| fail)
local macro_rules | `(tactic| walk_at "mine G1 10") => `(tactic| fail)
local macro_rules | `(tactic| walk_at "mine G1 11") => `(tactic| fail)
local macro_rules | `(tactic| walk_at "mine G1 12") => `(tactic| fail)
local macro_rules | `(tactic| walk_at "mine G1 13") => `(tactic| fail)
local macro_rules | `(tactic| walk_at "mine G1 14") => `(tactic| fail)
local macro_rules | `(tactic| walk_at "mine G1 15") => `(tactic| fail)
local macro_rules | `(tactic| walk_at "mine G1 16") => `(tactic| fail)
local macro_rules | `(tactic| walk_at "mine G1 17") => `(tactic| fail)
local macro_rules | `(tactic| walk_at "mine G1 18") => `(tactic| fail)
local macro_rules | `(tactic| walk_at "mine G1 19") => `(tactic| fail)
local macro_rules | `(tactic| walk_at "mine G1 20") => `(tactic| fail)
local macro_rules | `(tactic| walk_at "mine G1 21") => `(tactic| fail)
local macro_rules | `(tactic| walk_at "mine G1 22") => `(tactic| fail)
local macro_rules | `(tactic| walk_at "mine G1 23") => `(tactic| fail)
local macro_rules | `(tactic| walk_at "mine G1 24") => `(tactic| fail)
local macro_rules | `(tactic| walk_at "mine G1 25") => `(tactic| fail)
local macro_rules | `(tactic| walk_at "mine G1 26") => `(tactic| fail)
local macro_rules | `(tactic| walk_at "mine G1 27") => `(tactic| fail)
local macro_rules | `(tactic| walk_at "mine G1 28") => `(tactic| fail)
local macro_rules | `(tactic| walk_at "mine G1 29") => `(tactic| fail)
local macro_rules | `(tactic| walk_at "mine G1 30") => `(tactic| fail)
local macro_rules | `(tactic| walk_at "mine G1 31") => `(tactic| fail)
local macro_rules | `(tactic| walk_at "mine G1 32") => `(tactic| fail)
local macro_rules | `(tactic| walk_at "mine G1 33") => `(tactic| fail)
local macro_rules | `(tactic| walk_at "mine G1 34") => `(tactic| fail)
theorem fillKg (P : Params) : hd.heap_1 P = hd.heap_1 P ∧ PySem.Challenge.rw_to0014_01 = PySem.Challenge.rw_to0014_01 := by
  k_fill
  exact ⟨rfl, rfl⟩
local macro_rules | `(tactic| cell_enter) => `(tactic| (refine' enter_gen ?k3 ?k5 ?k6 ?k7 ?k8 ?k9 ?kB ?_ ?c2 ?c3 ?c4 ?c5; (case k3 => k_asm); (case k5 => k_asm); (case k6 => k_is); (case k7 => k_is); (case k8 => omega); (case k9 => exact BindsTo.of_eq rfl); (case c5 => decide); (case kB => exact locs rfl); (case c2 => exact rfl); (case c3 => exact rfl); (case c4 => exact rfl)))
section
set_option maxRecDepth 100000 in
set_option maxHeartbeats 8000000 in
theorem gi_spec {w : World} {loose : List Str} {mean : ExcName → Option Value} {mg mb : Str → Option Value} (dp un : Nat) (gd : Option (List Code)) (outer : List Env) (s : Shared) (Q E : Value → Shared → Prop)
   (X : (hd.heap_1 w.params).In s.heap) (T : Top vw loose mean mg mb s.heap) (hd : dp + 5 < recursionLimit)
   (c : Addr)
   (hret : ∀ (h' : Heap) (tk' : Nat) (gs : GenState) (m : Str → Option Value), h'.objs.size = s.heap.objs.size + 2 → h'.Ns s.heap.objs.size m → (∀ b o, s.heap.get? b = some o → h'.get? b = some o) → h'.IsGen (s.heap.objs.size + 1) s.gens.size → gs.bare = true →
     (∀ (A : Around) (base : Heap) (s₀ : Shared) (n : Nat) (items : Array Value) (zs : List Int), A.handled = none → (Mine.hd.heap_1 w.params).In base → Top Mine.vw loose mean mg mb base → base.objs.size ≤ s.heap.objs.size → c ≠ s.heap.objs.size → IntsAre items.toList zs → zs.head? ≠ some 0 →
       (∀ b o, base.get? b = some o → s₀.heap.get? b = some o) → s₀.heap.Ns s.heap.objs.size m → s₀.heap.IsList c items →
       gs.Goes (model PySem.Challenge.rw_to0014_01.row.prog w) A (giEnd s.heap.objs.size s₀.heap.objs.size (gi (n + 1) zs none) (n + 1)) (giProto base s.heap.objs.size s₀.heap.objs.size c (gi (n + 1) zs none) (n + 1)) (n + 1) (.send .none) s₀) →
     Q (.ref (s.heap.objs.size + 1)) { s with gens := s.gens.push gs, heap := h', toks := tk' }) :
   wpAny (model PySem.Challenge.rw_to0014_01.row.prog w) (Ar dp un gd outer) (call (.ref 59) [.ref c]) Q E s := by
  w_top off
  refine wpAny_call ?_
  k_dflt cell_enter
  intro h₁ tk hns keep hsz hg
  refine hret h₁ tk _ _ hsz hns keep hg rfl ?_
  intro A base s₀ n items zs hh Xb Tb hbs hc hz hz0 hb hn hl
  refine ⟨rfl, ?_⟩
  refine' seg_giStart (tcm := ?tt) hh rfl rfl rfl rfl rfl rfl rfl rfl rfl rfl (by decide) (by decide) ?_ hbs hc hz hz0 rfl rfl (fun v => rfl) hb hn rfl hl (GenSince.refl _ _ _)
  case tt => exact 311
  intro A' E' s' Q' m' hb' hn' hq
  exact name_K ⟨hn', hb', hbs⟩ Xb (topRead_of Tb) rfl hq
end
end Mine
end
section
open PySem PySem.W PyProof.Rows PySem.Calls PySem.Spec PyProof.Rows.LCg
namespace Mine
def Kb (W : List Addr) (h h' : Heap) : Prop := ∀ b o, b ∉ W → h.get? b = some o → h'.get? b = some o
theorem Kb.trans {W : List Addr} {h h' h'' : Heap} (x : Kb W h h') (y : Kb W h' h'') : Kb W h h'' := fun b o hb e => y b o hb (x b o hb e)
theorem Kb.but {W : List Addr} {h h' : Heap} {x : Addr} (s : Heap.SameBut x h h') (hx : x ∈ W) : Kb W h h' := fun b o hb e => s.extBut b o (fun q => hb (q ▸ hx)) e
theorem Kb.all {W : List Addr} {h h' : Heap} (s : ∀ b o, h.get? b = some o → h'.get? b = some o) : Kb W h h' := fun b o _ e => s b o e
theorem Kb.mono {W W' : List Addr} {h h' : Heap} (x : Kb W h h') (s : ∀ b ∈ W, b ∈ W') : Kb W' h h' := fun b o hb e => x b o (fun q => hb (s b q)) e
theorem Kb.pair {W : List Addr} {h h' : Heap} {T : Addr} {a b : Value} (x : Kb W h h') (hT : T ∉ W) (p : IsPair h T a b) : IsPair h' T a b := x _ _ hT p
theorem Kb.zip {W : List Addr} {h h' : Heap} {z TI TO : Addr} {f : Value} (x : Kb W h h') (hT : z ∉ W) (p : IsZip h z TI TO f) : IsZip h' z TI TO f := x _ _ hT p
/-- the zip's state, j pairs told -/
structure ZInv (prog : Program) (w : World) (A : Around) (h₀ : Heap) (Lg a i1 TI TO z c : Addr) (g : Nat) (gs0 : GenState) (mg : Str → Option Value) (O : List Int) (bd : Nat) (j : Nat) (h : Heap) (G : Array GenState) : Prop where
  hz : IsZip h z TI TO .none
  hTI : IsPair h TI (.ref i1) (.ref a)
  hTO : ∃ p q, IsPair h TO p q
  hr : IsRangeIter h i1 (j : Int) (4 - (j : Int)) 1
  hg : h.IsGen a g
  go : ∃ gs, G[g]? = some gs ∧ ((j = 0 ∧ gs = gs0 ∧ h.Ns Lg mg ∧ bd ≤ h.objs.size) ∨ ∃ I n, j + n = 4 ∧ bd ≤ I ∧ (0 < n → ∀ s'' : Shared, GFoot h₀ Lg I c h s''.heap → gs.Goes (model prog w) A.in1.in1 (giEnd Lg I O 4) (giProto h₀ Lg I c O 4) n (.send .none) s''))
section
variable {prog : Program} {w : World} {A : Around} {E : Value → Shared → Prop} {s : Shared} {env : Env}
theorem zip_step {h₀ : Heap} {Lg a i1 TI TO z c : Addr} {g : Nat} {gs0 : GenState} {mg : Str → Option Value} {O : List Int} {bd : Nat} {j : Nat} {items : Array Value} {mx : Str → Option Value} {xi xv : Str} {pi pv pt : PySem.Pos} {x1 : Nat} {N : Shared → Prop} {Q : Unit → Shared → Prop}
    (hh : A.handled = none) (hroom : A.depth < recursionLimit) (hxi : env.kindOf xi = some .local) (hxv : env.kindOf xv = some .local) (hp : (env.scope.kind == .class || (env.scope.kind == .module && env.locals != env.globals)) = false)
    (o1 : Lg < a) (o2 : a < i1) (o3 : i1 < TI) (o4 : TI < TO) (o5 : TO < z) (o6 : z < bd) (oC : env.locals < bd) (nC : ∀ b, b = z ∨ b = TO ∨ b = TI ∨ b = i1 ∨ b = a ∨ b = Lg → env.locals ≠ b)
    (cL : c < Lg) (cC : c ≠ env.locals)
    (hgo0 : ∀ (A' : Around) (s₀ : Shared), A'.handled = none → (∀ b o, h₀.get? b = some o → s₀.heap.get? b = some o) → s₀.heap.Ns Lg mg → s₀.heap.IsList c items →
      gs0.Goes (model prog w) A' (giEnd Lg s₀.heap.objs.size O 4) (giProto h₀ Lg s₀.heap.objs.size c O 4) 4 (.send .none) s₀)
    (hlim : h₀.NoLimit) (hoL : h₀.objs.size ≤ Lg)
    (hj : j ≤ 4) (Z : ZInv prog w A h₀ Lg a i1 TI TO z c g gs0 mg O bd j s.heap s.gens) (K0 : ∀ b o, h₀.get? b = some o → s.heap.get? b = some o) (hc : s.heap.IsList c items) (hn : s.heap.Ns env.locals mx) (hbare : AllBare s.gens)
    (hN : ∀ h' tk G', (O.length ≤ j ∨ j = 4) → AllBare G' → (∀ b o, b ≠ z → b ≠ TO → b ≠ i1 → b ≠ Lg → b < bd → s.heap.get? b = some o → h'.get? b = some o) → N { s with gens := G', heap := h', toks := tk })
    (hQ : ∀ h' tk G' k t u, j < 4 → O[j]? = some k → ZInv prog w A h₀ Lg a i1 TI TO z c g gs0 mg O bd (j + 1) h' G' → AllBare G' → h'.Ns env.locals (fun y => if y = xv then some (.int k t) else if y = xi then some (.int j u) else mx y) →
      (∀ b o, b ≠ z → b ≠ TO → b ≠ i1 → b ≠ Lg → b ≠ env.locals → b < bd → s.heap.get? b = some o → h'.get? b = some o) → Q () { s with gens := G', heap := h', toks := tk }) :
    wpAny (model prog w) A (pyNext (.ref z)) (fun r s₁ => match r with
      | none => N s₁
      | some v' => wpAny (model prog w) A (letOwnedTupleGo (.Tuple [.Name xi pi, .Name xv pv] x1 pt) (.ref z) v') (fun _ s₁' => wpAny (model prog w) A (assign (.Tuple [.Name xi pi, .Name xv pv] x1 pt) env v') Q E s₁') E s₁) E s := by
  obtain ⟨hz, hTI, ⟨p, q, hTO⟩, hr, hg, gs, hgs, hgo⟩ := Z
  have nTIz : TI ≠ z := Nat.ne_of_lt (Nat.lt_trans o4 o5)
  have nTOz : TO ≠ z := Nat.ne_of_lt o5
  have ni1z : i1 ≠ z := Nat.ne_of_lt (Nat.lt_trans o3 (Nat.lt_trans o4 o5))
  have ni1TO : i1 ≠ TO := Nat.ne_of_lt (Nat.lt_trans o3 o4)
  have naz : a ≠ z := Nat.ne_of_lt (Nat.lt_trans o2 (Nat.lt_trans o3 (Nat.lt_trans o4 o5)))
  have naTO : a ≠ TO := Nat.ne_of_lt (Nat.lt_trans o2 (Nat.lt_trans o3 o4))
  have nai1 : a ≠ i1 := Nat.ne_of_lt o2
  have nLz : Lg ≠ z := Nat.ne_of_lt (Nat.lt_trans o1 (Nat.lt_trans o2 (Nat.lt_trans o3 (Nat.lt_trans o4 o5))))
  have nLTO : Lg ≠ TO := Nat.ne_of_lt (Nat.lt_trans o1 (Nat.lt_trans o2 (Nat.lt_trans o3 o4)))
  have nLi1 : Lg ≠ i1 := Nat.ne_of_lt (Nat.lt_trans o1 o2)
  have nLa : Lg ≠ a := Nat.ne_of_lt o1
  have nTITO : TI ≠ TO := Nat.ne_of_lt o4
  have nTIi1 : TI ≠ i1 := Nat.ne_of_gt o3
  have lt_c : ∀ b, Lg < b → c ≠ b := fun b hb => Nat.ne_of_lt (Nat.lt_trans cL hb)
  have LTO : Lg < TO := Nat.lt_trans o1 (Nat.lt_trans o2 (Nat.lt_trans o3 o4))
  have Lz : Lg < z := Nat.lt_trans LTO o5
  have Li1 : Lg < i1 := Nat.lt_trans o1 o2
  have hlimK : ∀ h' : Heap, (∀ b o, h₀.get? b = some o → h'.get? b = some o) → h'.NoLimit := fun h' k => hlim.keeps k
  have h0lt : ∀ b o, h₀.get? b = some o → b < Lg := fun b o e => Nat.lt_of_lt_of_le (Heap.lt_size e) hoL
  refine pyNext_zip2 nTIz nTOz hz hTI hTO fun h₁ hz₁ sb₁ => ?_
  have hr₁ : IsRangeIter h₁ i1 (j : Int) (4 - (j : Int)) 1 := sb₁.extBut _ _ ni1z hr
  have hTO₁ : IsPair h₁ TO p q := sb₁.extBut _ _ nTOz hTO
  by_cases hj4 : j < 4
  · refine nextOf_range_item hr₁ (by omega) fun h₂ hr₂ sb₂ => ?_
    have sb₂' : Heap.SameBut i1 h₁ h₂ := sb₂
    refine ⟨sb₂'.extBut _ _ (Ne.symm ni1TO) hTO₁, fun h₃ hTO₃ sb₃ => ?_⟩
    have sb₃' : Heap.SameBut TO h₂ h₃ := sb₃
    have k03 : Kb [z, TO, i1] s.heap h₃ := (Kb.but sb₁ (by simp)).trans ((Kb.but sb₂' (by simp)).trans (Kb.but sb₃' (by simp)))
    have b03 : ∀ b o, h₀.get? b = some o → h₃.get? b = some o := fun b o e => k03 b o (by
      have := h0lt b o e
      simp only [List.mem_cons, List.not_mem_nil, or_false, not_or]
      exact ⟨Nat.ne_of_lt (Nat.lt_trans this Lz), Nat.ne_of_lt (Nat.lt_trans this LTO), Nat.ne_of_lt (Nat.lt_trans this Li1)⟩) (K0 b o e)
    have hz3 : h₃.objs.size = s.heap.objs.size := by rw [sb₃'.1, sb₂'.1, sb₁.1]
    have nL : Lg ∉ [z, TO, i1] := by simp [nLz, nLTO, nLi1]
    have nc : c ∉ [z, TO, i1] := by simp [lt_c z Lz, lt_c TO LTO, lt_c i1 Li1]
    have hc₃ : h₃.IsList c items := hc.at fun o e => k03 c o nc e
    have key : ∃ I n, j + (n + 1) = 4 ∧ bd ≤ I ∧ gs.Goes (model prog w) A.in1.in1 (giEnd Lg I O 4) (giProto h₀ Lg I c O 4) (n + 1) (.send .none) (({ s with heap := h₃, toks := s.toks + 1 } : Shared).setGen g .running) := by
      rcases hgo with ⟨rfl, rfl, hns, hbd⟩ | ⟨I, n, hjn, hbI, hgo⟩
      · refine ⟨h₃.objs.size, 3, rfl, by rw [hz3]; exact hbd, ?_⟩
        exact hgo0 A.in1.in1 (({ s with heap := h₃, toks := s.toks + 1 } : Shared).setGen g .running) hh b03 (hns.at' fun o e => k03 Lg o nL e) hc₃
      · obtain ⟨n', rfl⟩ : ∃ n', n = n' + 1 := ⟨n - 1, by omega⟩
        refine ⟨I, n', hjn, hbI, hgo (Nat.succ_pos _) _ ⟨b03, fun b hb o e => ?_⟩⟩
        refine k03 b o ?_ e
        rcases hb with rfl | rfl | rfl
        · exact nL
        · simp only [List.mem_cons, List.not_mem_nil, or_false, not_or]
          exact ⟨Nat.ne_of_gt (Nat.lt_of_lt_of_le o6 hbI), Nat.ne_of_gt (Nat.lt_of_lt_of_le (Nat.lt_trans o5 o6) hbI), Nat.ne_of_gt (Nat.lt_of_lt_of_le (Nat.lt_trans o3 (Nat.lt_trans o4 (Nat.lt_trans o5 o6))) hbI)⟩
        · exact nc
    clear hgo
    obtain ⟨I, n, hjn, hbI, hgo⟩ := key
    have I_ne : ∀ b, b < bd → I ≠ b := fun b hb => Nat.ne_of_gt (Nat.lt_of_lt_of_le hb hbI)
    have na3 : a ∉ [z, TO, i1] := by simp [naz, naTO, nai1]
    refine nextOf_gen (s := { s with heap := h₃, toks := s.toks + 1 }) (P := fun n s₀ s₁ => O.length + n ≤ 4 ∧ GenSince Lg [I] s₀ s₁) hh (hlimK _ b03) hroom (fun n s₀ r s₁ x => ⟨x.1, x.2.1, x.2.2⟩) (let ⟨o, nm, qn, ho, r⟩ := hg; ⟨o, nm, qn, k03 a o na3 ho, r⟩) hgs hgo (fun v s₁ gs' hb hv => ?_) (fun s₁ hp' h' e hk he => ?_)
    · obtain ⟨⟨k, t, hk, rfl⟩, ⟨h₄, tk₄, rfl, hk₄⟩, hkap⟩ := hv
      have hkj : O[j]? = some k := by
        have : 4 - (n + 1 - 1 + 1) = j := by omega
        rw [this] at hk; exact hk
      have hk₄' : ∀ b o, b ≠ Lg → b ≠ I → h₃.get? b = some o → h₄.get? b = some o := fun b o h1 h2 e => hk₄ b o h1 (by simpa using h2) e
      have hz₃ : IsZip h₃ z TI TO .ellipsis := sb₃'.extBut _ _ (Ne.symm nTOz) (sb₂'.extBut _ _ (Ne.symm ni1z) hz₁)
      have hTO₄ : IsPair h₄ TO (.int j s.toks) q := hk₄' _ _ (Ne.symm nLTO) (Ne.symm (I_ne _ (Nat.lt_trans o5 o6))) hTO₃
      have hz₄ : IsZip h₄ z TI TO .ellipsis := hk₄' _ _ (Ne.symm nLz) (Ne.symm (I_ne _ o6)) hz₃
      refine ⟨hTO₄, hz₄, fun h₅ sb₅ hTO₅ h₈ hz₈ hT₈ k₈ => ?_⟩
      have sb₅' : Heap.SameBut TO h₄ h₅ := sb₅
      have hzlt5 : z < h₅.objs.size := Heap.lt_size (sb₅'.extBut _ _ (Ne.symm nTOz) hz₄)
      refine wpAny_letOwnedTupleGo_zip hz₈ fun h₉ hz₉ sb₉ => ?_
      have sb₉' : Heap.SameBut z h₈ h₉ := sb₉
      have hT₉ : h₉.IsTuple h₅.objs.size #[.int j s.toks, .int k t] := ⟨_, sb₉'.extBut _ _ (Nat.ne_of_gt hzlt5) hT₈, rfl, _, rfl⟩
      refine wpAny_assign_Tuple hh hT₉ rfl rfl fun h₁₀ hx₁₀ => ?_
      have hx₁₀' : Heap.ExtBut h₉.objs.size h₉ h₁₀ := hx₁₀
      have old₁₀ : ∀ b o, h₉.get? b = some o → h₁₀.get? b = some o := fun b o e => hx₁₀' b o (Nat.ne_of_lt (Heap.lt_size e)) e
      -- from the fourth heap on
      have k410 : Kb [z, TO] h₄ h₁₀ := (Kb.but sb₅' (by simp)).trans (Kb.trans (W := [z, TO]) (h' := h₈) (fun b o hb e => k₈ b o (fun r => hb (by simp [r])) e) ((Kb.but sb₉' (by simp)).trans (Kb.all old₁₀)))
      have k010 : ∀ b o, b ≠ z → b ≠ TO → b ≠ i1 → b ≠ Lg → b ≠ I → s.heap.get? b = some o → h₁₀.get? b = some o := fun b o c1 c2 c3 c4 c5 e =>
        k410 b o (by simp [c1, c2]) (hk₄' b o c4 c5 (k03 b o (by simp [c1, c2, c3]) e))
      have hn₁₀ : h₁₀.Ns env.locals mx := hn.at' fun o e => k010 _ o (nC _ (.inl rfl)) (nC _ (.inr (.inl rfl))) (nC _ (.inr (.inr (.inr (.inl rfl))))) (nC _ (.inr (.inr (.inr (.inr (.inr rfl)))))) (Ne.symm (I_ne _ oC)) e
      show wpAny (model prog w) A (do holding [.int k t] (assign (.Name xi pi) env (.int (j : Int) s.toks)); do holding [] (assign (.Name xv pv) env (.int k t)); pure ()) _ _ _
      refine wpAny_bind (wpAny_holding (wpAny_assign_Name (wpAny_storeName_local hxi hn₁₀ (fun h₁₁ hn₁₁ hs₁₁ => ?_) hp)))
      have hs₁₁' : Heap.SameBut env.locals h₁₀ h₁₁ := hs₁₁
      refine wpAny_bind (wpAny_holding (wpAny_assign_Name (wpAny_storeName_local hxv hn₁₁ (fun h₁₂ hn₁₂ hs₁₂ => wpAny_pure ?_) hp)))
      have hs₁₂' : Heap.SameBut env.locals h₁₁ h₁₂ := hs₁₂
      have up : ∀ b o, b ≠ env.locals → h₁₀.get? b = some o → h₁₂.get? b = some o := fun b o hb e => hs₁₂'.extBut b o hb (hs₁₁'.extBut b o hb e)
      have k412 : ∀ b o, b ≠ z → b ≠ TO → b ≠ env.locals → h₄.get? b = some o → h₁₂.get? b = some o := fun b o c1 c2 c3 e => up b o c3 (k410 b o (by simp [c1, c2]) e)
      have b04 : ∀ b o, h₀.get? b = some o → h₄.get? b = some o := fun b o e => hk₄' b o (Nat.ne_of_lt (h0lt b o e)) (Ne.symm (I_ne _ (Nat.lt_trans (Nat.lt_trans (h0lt b o e) Lz) o6))) (b03 b o e)
      have e1 : ((j + 1 : Nat) : Int) = (j : Int) + 1 := by push_cast; rfl
      have ri : IsRangeIter h₁₂ i1 ((j + 1 : Nat) : Int) (4 - ((j + 1 : Nat) : Int)) 1 := by
        rw [e1, show (4 : Int) - ((j : Int) + 1) = 4 - (j : Int) - 1 by omega]
        exact k412 _ _ ni1z ni1TO (Ne.symm (nC _ (.inr (.inr (.inr (.inl rfl)))))) (hk₄' _ _ (Ne.symm nLi1) (Ne.symm (I_ne _ (Nat.lt_trans o3 (Nat.lt_trans o4 (Nat.lt_trans o5 o6))))) (sb₃'.extBut _ _ ni1TO hr₂))
      have hgs' : (((({ s with heap := h₃, toks := s.toks + 1 } : Shared).setGen g .running)).setGen g gs').gens[g]? = some gs' := setGen_self (gs := .running) (setGen_self hgs)
      refine hQ h₁₂ _ _ k t s.toks hj4 hkj ⟨?_, ?_, ⟨.int (j : Int) s.toks, .int k t, ?_⟩, ri, ?_, gs', hgs', .inr ⟨I, n, by omega, hbI, fun hn' s'' hf => ?_⟩⟩ ?_ hn₁₂ ?_
      · exact up _ _ (Ne.symm (nC _ (.inl rfl))) (old₁₀ _ _ hz₉)
      · exact up _ _ (Ne.symm (nC _ (.inr (.inr (.inl rfl))))) (k010 _ _ nTIz nTITO nTIi1 (Ne.symm (Nat.ne_of_lt (Nat.lt_trans Li1 o3))) (Ne.symm (I_ne _ (Nat.lt_trans o4 (Nat.lt_trans o5 o6)))) hTI)
      · exact up _ _ (Ne.symm (nC _ (.inr (.inl rfl)))) (old₁₀ _ _ (sb₉'.extBut _ _ nTOz (k₈ _ _ nTOz hTO₅)))
      · obtain ⟨o, nm, qn, ho, r⟩ := hg
        exact ⟨o, nm, qn, up _ _ (Ne.symm (nC _ (.inr (.inr (.inr (.inr (.inl rfl))))))) (k010 _ _ naz naTO nai1 (Ne.symm nLa) (Ne.symm (I_ne _ (Nat.lt_trans o2 (Nat.lt_trans o3 (Nat.lt_trans o4 (Nat.lt_trans o5 o6)))))) ho), r⟩
      · refine (?_ : gs'.Goes (model prog w) A.in1.in1 (giEnd Lg I O 4) (giProto h₀ Lg I c O 4) n (.send .none) s'')
        have := hkap hn' s'' ⟨hf.1, fun b hb o e => hf.2 b hb o ?_⟩
        · exact this
        · refine k412 b o ?_ ?_ ?_ e
          · rcases hb with rfl | rfl | rfl
            · exact nLz
            · exact I_ne _ o6
            · exact lt_c _ Lz
          · rcases hb with rfl | rfl | rfl
            · exact nLTO
            · exact I_ne _ (Nat.lt_trans o5 o6)
            · exact lt_c _ LTO
          · rcases hb with rfl | rfl | rfl
            · exact Ne.symm (nC _ (.inr (.inr (.inr (.inr (.inr rfl))))))
            · exact I_ne _ oC
            · exact cC
      · exact (GenOnlyQ.of ((GenOnly.setGen _ g .running).trans (GenOnly.setGen _ g gs')) hgs' hb).bare hbare
      · exact fun b o c1 c2 c3 c4 c5 c6 e => up b o c5 (k010 b o c1 c2 c3 c4 (Ne.symm (I_ne _ c6)) e)
    · obtain ⟨hlen, h₄, tk₄, rfl, hk₄⟩ := hp'
      have hk₄' : ∀ b o, b ≠ Lg → b ≠ I → h₃.get? b = some o → h₄.get? b = some o := fun b o h1 h2 e => hk₄ b o h1 (by simpa using h2) e
      have hz₃ : IsZip h₃ z TI TO .ellipsis := sb₃'.extBut _ _ (Ne.symm nTOz) (sb₂'.extBut _ _ (Ne.symm ni1z) hz₁)
      have hz₄ : IsZip h' z TI TO .ellipsis := hk _ _ (hk₄' _ _ (Ne.symm nLz) (Ne.symm (I_ne _ o6)) hz₃)
      refine ⟨hz₄, fun h'' sb => ?_⟩
      have sb' : Heap.SameBut z h' h'' := sb
      obtain ⟨o, ho, hc'⟩ := he
      have hez : e ≠ z := fun x => by subst x; rw [hz₄] at ho; cases ho; simp at hc'
      refine ⟨⟨e, o, rfl, sb'.extBut _ _ hez ho, hc'⟩, ?_⟩
      have hgs' : (((({ s with heap := h₃, toks := s.toks + 1 } : Shared).setGen g .running)).setGen g .finished).gens[g]? = some .finished := setGen_self (gs := .running) (setGen_self hgs)
      refine hN h'' _ _ (.inl (by omega)) ((GenOnlyQ.of ((GenOnly.setGen _ g .running).trans (GenOnly.setGen _ g .finished)) hgs' rfl).bare hbare) fun b o c1 c2 c3 c4 c6 e => ?_
      exact sb'.extBut b o c1 (hk b o (hk₄' b o c4 (Ne.symm (I_ne _ c6)) (k03 b o (by simp [c1, c2, c3]) e)))
  · have : j = 4 := by omega
    subst this
    refine nextOf_range_end hh hr₁ (by decide) fun h₂ e hk he => ?_
    refine ⟨hk _ _ hz₁, fun h' sb => ?_⟩
    have sb' : Heap.SameBut z h₂ h' := sb
    obtain ⟨o, ho, hc'⟩ := he
    have hez : e ≠ z := fun x => by subst x; rw [hk _ _ hz₁] at ho; cases ho; simp at hc'
    refine ⟨⟨e, o, rfl, sb'.extBut _ _ hez ho, hc'⟩, ?_⟩
    exact hN h' _ _ (.inr rfl) hbare fun b o c1 _ _ _ _ e => sb'.extBut b o c1 (hk b o (sb₁.extBut b o c1 e))
theorem ZInv.but {h₀ : Heap} {Lg a i1 TI TO z c D : Addr} {g : Nat} {gs0 : GenState} {mg : Str → Option Value} {O : List Int} {bd j : Nat} {h h' : Heap} {G : Array GenState}
    (x : ZInv prog w A h₀ Lg a i1 TI TO z c g gs0 mg O bd j h G) (sb : Heap.SameBut D h h') (hD : D < bd) (nD : ∀ b, b = z ∨ b = TO ∨ b = TI ∨ b = i1 ∨ b = a ∨ b = Lg ∨ b = c → D ≠ b) : ZInv prog w A h₀ Lg a i1 TI TO z c g gs0 mg O bd j h' G := by
  obtain ⟨hz, hTI, ⟨p, q, hTO⟩, hr, hg, gs, hgs, hgo⟩ := x
  refine ⟨sb.extBut _ _ (Ne.symm (nD _ (.inl rfl))) hz, sb.extBut _ _ (Ne.symm (nD _ (.inr (.inr (.inl rfl))))) hTI, ⟨p, q, sb.extBut _ _ (Ne.symm (nD _ (.inr (.inl rfl)))) hTO⟩, sb.extBut _ _ (Ne.symm (nD _ (.inr (.inr (.inr (.inl rfl)))))) hr, ?_, gs, hgs, ?_⟩
  · obtain ⟨o, nm, qn, ho, r⟩ := hg
    exact ⟨o, nm, qn, sb.extBut _ _ (Ne.symm (nD _ (.inr (.inr (.inr (.inr (.inl rfl))))))) ho, r⟩
  · rcases hgo with ⟨e1, e2, e3, e4⟩ | ⟨I, n, e1, e2, e3⟩
    · exact .inl ⟨e1, e2, e3.at' fun o e => sb.extBut _ o (Ne.symm (nD _ (.inr (.inr (.inr (.inr (.inr (.inl rfl)))))))) e, by rw [sb.1]; exact e4⟩
    · refine .inr ⟨I, n, e1, e2, fun hn s'' hf => e3 hn s'' ⟨hf.1, fun b hb o e => hf.2 b hb o (sb.extBut b o ?_ e)⟩⟩
      rcases hb with rfl | rfl | rfl
      · exact Ne.symm (nD _ (.inr (.inr (.inr (.inr (.inr (.inl rfl)))))))
      · exact Nat.ne_of_gt (Nat.lt_of_lt_of_le hD e2)
      · exact Ne.symm (nD _ (.inr (.inr (.inr (.inr (.inr (.inr rfl)))))))
/-- what the iterator's expression brings -/
structure ZFresh (prog : Program) (w : World) (h₀ : Heap) (L : Addr) (m : Str → Option Value) (news : List (Addr × Obj)) (c : Addr) (items : Array Value) (O : List Int) (h : Heap) (G : Array GenState) (z TI TO i1 a Lg : Addr) (g : Nat) (gs0 : GenState) (mg : Str → Option Value) : Prop where
  F : Fr h₀ L h m
  N : News h₀ L h news
  oL : L < Lg
  oN : ∀ p ∈ news, p.1 < Lg
  o1 : Lg < a
  o2 : a < i1
  o3 : i1 < TI
  o4 : TI < TO
  o5 : TO < z
  hz : IsZip h z TI TO .none
  hTI : IsPair h TI (.ref i1) (.ref a)
  hTO : IsPair h TO .none .none
  hr : IsRangeIter h i1 0 4 1
  hg : h.IsGen a g
  hgs : G[g]? = some gs0
  hns : h.Ns Lg mg
  bare : AllBare G
  go : ∀ (A' : Around) (s₀ : Shared), A'.handled = none → (∀ b o, h₀.get? b = some o → s₀.heap.get? b = some o) → s₀.heap.Ns Lg mg → s₀.heap.IsList c items →
      gs0.Goes (model prog w) A' (giEnd Lg s₀.heap.objs.size O 4) (giProto h₀ Lg s₀.heap.objs.size c O 4) 4 (.send .none) s₀
theorem Assign_ListComp_zip {h₀ : Heap} {L c : Addr} {oc : Obj} {nc : Nat} {m : Str → Option Value} {news : List (Addr × Obj)} {items : Array Value} {O : List Int} {iter : Expr} {x x₂ : Str} {pe px px₂ tp : PySem.Pos} {tk0 : Nat} {scope : Scope} {cl : List (Str × Addr)} {pos : PySem.Pos} {y : Str} {py spos : PySem.Pos} {Q : Flow → Shared → Prop} (hLe : env.locals = L) (hy : env.kindOf y = some .local) (hpp : (env.scope.kind == .class || (env.scope.kind == .module && env.locals != env.globals)) = false)
    (hsw : swapsWith (.ListComp (.Name x₂ pe) [⟨.Tuple [.Name x px, .Name x₂ px₂] tk0 tp, iter, [], 0⟩] scope pos) (some (.Name y py)) spos.line env = pure true)
    (_F₀ : Fr h₀ L s.heap m) (_N₀ : News h₀ L s.heap news) (hclos : closureFor scope env = pure cl) (hcell : ∀ y ∈ scope.names, y.2 ≠ .cell) (hkind : scope.kind = .function)
    (hnames : ∀ y ∈ scope.names, y.2 = .local → scope.names.lookup y.1 = some .local) (hx : scope.names.lookup x = some .local) (hx₂ : scope.names.lookup x₂ = some .local) (hdb : (x₂ == ("__debug__" : Str)) = false) (hh : A.handled = none) (hroom : A.depth < recursionLimit) (hlim : h₀.NoLimit)
    (hcn : (c, oc) ∈ news) (hcc : oc.cls = .type "list") (hcd : oc.data = .seq items nc) (hO : O.length ≤ 4)
    (he : wpAny (model prog w) A (eval iter env) (fun xv s₁ => Stp (∃ tk h₁ G z TI TO i1 a Lg g gs0 mg, xv = .ref z ∧ s₁ = { s with gens := G, heap := h₁, toks := tk } ∧ ZFresh prog w h₀ L m news c items O h₁ G z TI TO i1 a Lg g gs0 mg)) E s)
    (fin : ∀ D h tk G ys, Fr h₀ L h (fun z => if z = y then some (.ref D) else m z) → News h₀ L h ((D, lst ys) :: news) → Off1 D news → IntsAre ys O → AllBare G → Q .next { s with gens := G, heap := h, toks := tk })
    (hs : ∀ x, foldedSetIterable iter env x = pure x := by intro _; rfl) :
    wpAny (model prog w) A (exec (.Assign [.Name y py] (.ListComp (.Name x₂ pe) [⟨.Tuple [.Name x px, .Name x₂ px₂] tk0 tp, iter, [], 0⟩] scope pos) spos) env) Q E s := by
  rw [exec_Assign_Name_used _ _ _ _ hsw]
  refine wpAny_bind (wpAny_standAt (wpAny_bind ?_))
  show wpAny _ A (do let _ ← comprehension (.ListComp (.Name x₂ pe) [⟨.Tuple [.Name x px, .Name x₂ px₂] tk0 tp, iter, [], 0⟩] scope pos) scope env _ (newList []) false (eval iter env) (some (assign (.Name y py) env))) _ _ s
  refine wpAny_bind (wpAny_mono (wpAny_comprehension_free (use := some (assign (.Name y py) env)) (Q := fun _ s' => Q .next s') rfl hs hclos hkind hnames (wpAny_mono he (fun xv s₁ hh1 => ?_) fun _ _ q => q)) (fun _ s' hq => wpAny_pure (wpAny_pure hq)) fun _ _ e => e)
  obtain ⟨tk, h₁, G, z, TI, TO, i1, a, Lg, g, gs0, mg, rfl, rfl, ZF⟩ := Stp.out hh1
  clear hh1
  obtain ⟨F, N, oL, oN, o1, o2, o3, o4, o5, hz, hTI, hTO, hr, hg, hgs, hns, bare, go⟩ := ZF
  refine wpAny_pyIter_zip hz ?_
  obtain ⟨oLg, hoLg, _⟩ := ns_obj hns
  obtain ⟨oa, nma, qna, hoa, hga⟩ := id hg
  have La : L < a := Nat.lt_trans oL o1
  have Li1 : L < i1 := Nat.lt_trans La o2
  have LTI : L < TI := Nat.lt_trans Li1 o3
  have LTO : L < TO := Nat.lt_trans LTI o4
  have Lz : L < z := Nat.lt_trans LTO o5
  have none_of : ∀ b, L < b → h₀.get? b = none := fun b hb => by
    cases q : h₀.get? b with
    | none => rfl
    | some o => exact absurd (Nat.lt_of_lt_of_le (Heap.lt_size q) F.above) (Nat.not_lt.mpr (Nat.le_of_lt hb))
  have N' : News h₀ L h₁ ((z, _) :: (TO, _) :: (TI, _) :: (i1, _) :: (a, oa) :: (Lg, oLg) :: news) := fun p hp => by
    rcases List.mem_cons.mp hp with rfl | hp
    · exact ⟨hz, Nat.ne_of_gt Lz, none_of _ Lz⟩
    · rcases List.mem_cons.mp hp with rfl | hp
      · exact ⟨hTO, Nat.ne_of_gt LTO, none_of _ LTO⟩
      · rcases List.mem_cons.mp hp with rfl | hp
        · exact ⟨hTI, Nat.ne_of_gt LTI, none_of _ LTI⟩
        · rcases List.mem_cons.mp hp with rfl | hp
          · exact ⟨hr, Nat.ne_of_gt Li1, none_of _ Li1⟩
          · rcases List.mem_cons.mp hp with rfl | hp
            · exact ⟨hoa, Nat.ne_of_gt La, none_of _ La⟩
            · rcases List.mem_cons.mp hp with rfl | hp
              · exact ⟨hoLg, Nat.ne_of_gt oL, none_of _ oL⟩
              · exact N p hp
  refine comp_open hcell hkind F N' (fun h' tk' Q' E' up hQ => wpAny_pyIter_zip (up _ _ hz) hQ) fun D C oC h₂ tk₂ F₂ N₂ hoC hCD oC1 oD1 hLD hLC up => ?_
  have cLg : c < Lg := oN _ hcn
  have hCbd : C < h₂.objs.size := Heap.lt_size (N₂ _ (.head _)).1
  have hDbd : D < h₂.objs.size := Heap.lt_size (N₂ _ (.tail _ (.head _))).1
  have hzbd : z < h₂.objs.size := Heap.lt_size (up _ _ hz)
  have hD0 : h₀.get? D = none := none_of _ hLD
  have hC0 : h₀.get? C = none := none_of _ hLC
  have oCn : Off1 C news := oC1.2.2.2.2.2.2
  have oDn : Off1 D news := oD1.2.2.2.2.2.2
  have nC : ∀ b, b = z ∨ b = TO ∨ b = TI ∨ b = i1 ∨ b = a ∨ b = Lg → C ≠ b := by
    rintro b (rfl | rfl | rfl | rfl | rfl | rfl)
    · exact Ne.symm oC1.1
    · exact Ne.symm oC1.2.1
    · exact Ne.symm oC1.2.2.1
    · exact Ne.symm oC1.2.2.2.1
    · exact Ne.symm oC1.2.2.2.2.1
    · exact Ne.symm oC1.2.2.2.2.2.1
  have nD : ∀ b, b = z ∨ b = TO ∨ b = TI ∨ b = i1 ∨ b = a ∨ b = Lg ∨ b = c → D ≠ b := by
    rintro b (rfl | rfl | rfl | rfl | rfl | rfl | rfl)
    · exact Ne.symm oD1.1
    · exact Ne.symm oD1.2.1
    · exact Ne.symm oD1.2.2.1
    · exact Ne.symm oD1.2.2.2.1
    · exact Ne.symm oD1.2.2.2.2.1
    · exact Ne.symm oD1.2.2.2.2.2.1
    · exact Ne.symm (off1_ne oDn _ hcn)
  refine LCp.codeAny_compLoop_pair (fun k s' => ∃ h' tk' G' j ys m', s' = { s with gens := G', heap := h', toks := tk' } ∧ j ≤ 4 ∧ k = 5 - j ∧ j ≤ O.length ∧ ZInv prog w A h₀ Lg a i1 TI TO z c g gs0 mg O h₂.objs.size j h' G' ∧ AllBare G' ∧ Fr h₀ L h' m ∧ h'.Ns C m' ∧ News h₀ L h' ((D, lst ys) :: news) ∧ IntsAre ys (O.take j)) ?_ 5
    ⟨h₂, tk₂, G, 0, [], _, rfl, Nat.zero_le _, rfl, Nat.zero_le _, ⟨up _ _ hz, up _ _ hTI, ⟨_, _, up _ _ hTO⟩, up _ _ hr, hg.keeps up, gs0, hgs, .inl ⟨rfl, rfl, hns.keeps up, Nat.le_refl _⟩⟩, bare, F₂, hoC.ns (N₂ _ (.head _)).1, fun p hp => ?_, by simpa using IntsAre.nil⟩
  · rintro k s' ⟨h', tk', G', j, ys, m', rfl, hj, rfl, hjO, Z, bare', F', hn', N', hys⟩
    refine zip_step (env := compEnvC scope cl C env) (items := items) hh hroom (lookup_relabel_local hx) (lookup_relabel_local hx₂) (by simp [compEnvC, relabel, hkind]) o1 o2 o3 o4 o5 hzbd hCbd nC cLg (off1_ne oCn _ hcn) go hlim (Nat.le_trans F.above (Nat.le_of_lt oL)) hj Z F'.keep ?_ hn' bare' ?_ ?_
    · exact ⟨oc, (N' _ (.tail _ hcn)).1, hcc, _, hcd⟩
    · intro h₃ tk₃ G₃ hend bare₃ k₃
      have hfull : O.take j = O := List.take_of_length_le (by rcases hend with h | h <;> omega)
      rw [hfull] at hys
      have k₃' : ∀ b o, b < Lg → h'.get? b = some o → h₃.get? b = some o := fun b o hb e =>
        k₃ b o (Nat.ne_of_lt (Nat.lt_trans hb (Nat.lt_trans o1 (Nat.lt_trans o2 (Nat.lt_trans o3 (Nat.lt_trans o4 o5)))))) (Nat.ne_of_lt (Nat.lt_trans hb (Nat.lt_trans o1 (Nat.lt_trans o2 (Nat.lt_trans o3 o4))))) (Nat.ne_of_lt (Nat.lt_trans hb (Nat.lt_trans o1 o2))) (Nat.ne_of_lt hb)
          (Nat.lt_trans (Nat.lt_trans hb (Nat.lt_trans o1 (Nat.lt_trans o2 (Nat.lt_trans o3 (Nat.lt_trans o4 o5))))) hzbd) e
      have h0lt : ∀ b o, h₀.get? b = some o → b < Lg := fun b o e => Nat.lt_of_lt_of_le (Heap.lt_size e) (Nat.le_trans F.above (Nat.le_of_lt oL))
      have F₃ : Fr h₀ L h₃ m := ⟨F'.ns.at' fun o e => k₃' L o oL e, fun b o e => k₃' b o (h0lt b o e) (F'.keep b o e), F'.above⟩
      have hn₃ : h₃.Ns C m' := hn'.at' fun o e => k₃ C o (nC _ (.inl rfl)) (nC _ (.inr (.inl rfl))) (nC _ (.inr (.inr (.inr (.inl rfl))))) (nC _ (.inr (.inr (.inr (.inr (.inr rfl)))))) hCbd e
      show wpAny _ A (assign (.Name y py) env (.ref D)) _ _ _
      refine wpAny_assign_Name (wpAny_storeName_local hy (hLe.symm ▸ F₃.ns) (fun h₄ hn₄ hs₄ => ?_) hpp)
      have hn₄' : h₄.Ns L (fun z => if z = y then some (.ref D) else m z) := hLe ▸ hn₄
      have hs₄' : Heap.SameBut L h₃ h₄ := hLe ▸ hs₄
      have hL₀ : h₀.get? L = none := Heap.get?_none_of_le F'.above
      have F₄ : Fr h₀ L h₄ (fun z => if z = y then some (.ref D) else m z) := ⟨hn₄', fun b o e => hs₄'.extBut b o (fun q => by rw [q, hL₀] at e; cases e) (F₃.keep b o e), F'.above⟩
      refine ⟨m', hn₃.sameBut hs₄' (Nat.ne_of_gt hLC), fun h₆ hs₆ => ?_⟩
      have hs₆' : Heap.SameBut C h₄ h₆ := hs₆
      refine fin D h₆ _ G₃ ys (F₄.change hs₆' (Nat.ne_of_gt hLC) hC0) (fun p hp => ?_) oDn hys bare₃
      rcases List.mem_cons.mp hp with rfl | hp
      · exact ⟨hs₆'.extBut _ _ (Ne.symm hCD) (hs₄'.extBut _ _ (Nat.ne_of_gt hLD) (k₃ D _ (nD _ (.inl rfl)) (nD _ (.inr (.inl rfl))) (nD _ (.inr (.inr (.inr (.inl rfl))))) (nD _ (.inr (.inr (.inr (.inr (.inr (.inl rfl))))))) hDbd (N' _ (.head _)).1)), (N' _ (.head _)).2⟩
      · exact ⟨hs₆'.extBut _ _ (off1_ne oCn p hp) (hs₄'.extBut _ _ (N' p (.tail _ hp)).2.1 (k₃' _ _ (oN p hp) (N' p (.tail _ hp)).1)), (N' p (.tail _ hp)).2⟩
    · intro h₃ tk₃ G₃ k t u hj4 hOj Z₃ bare₃ hn₃ k₃
      have hjl : j < O.length := (List.getElem?_eq_some_iff.mp hOj).1
      have k₃' : ∀ b o, b < Lg → b ≠ C → h'.get? b = some o → h₃.get? b = some o := fun b o hb hbC e =>
        k₃ b o (Nat.ne_of_lt (Nat.lt_trans hb (Nat.lt_trans o1 (Nat.lt_trans o2 (Nat.lt_trans o3 (Nat.lt_trans o4 o5)))))) (Nat.ne_of_lt (Nat.lt_trans hb (Nat.lt_trans o1 (Nat.lt_trans o2 (Nat.lt_trans o3 o4))))) (Nat.ne_of_lt (Nat.lt_trans hb (Nat.lt_trans o1 o2))) (Nat.ne_of_lt hb) hbC
          (Nat.lt_trans (Nat.lt_trans hb (Nat.lt_trans o1 (Nat.lt_trans o2 (Nat.lt_trans o3 (Nat.lt_trans o4 o5))))) hzbd) e
      have h0lt : ∀ b o, h₀.get? b = some o → b < Lg := fun b o e => Nat.lt_of_lt_of_le (Heap.lt_size e) (Nat.le_trans F.above (Nat.le_of_lt oL))
      have F₃ : Fr h₀ L h₃ m := ⟨F'.ns.at' fun o e => k₃' L o oL (Nat.ne_of_lt hLC) e, fun b o e => k₃' b o (h0lt b o e) (fun q => by rw [q, hC0] at e; cases e) (F'.keep b o e), F'.above⟩
      have zD : h₃.get? D = some (lst ys) := k₃ D _ (nD _ (.inl rfl)) (nD _ (.inr (.inl rfl))) (nD _ (.inr (.inr (.inr (.inl rfl))))) (nD _ (.inr (.inr (.inr (.inr (.inr (.inl rfl))))))) (Ne.symm hCD) hDbd (N' _ (.head _)).1
      refine wpAny_Name (wpAny_loadName_local (by simp [compEnvC, relabel, hkind]) (lookup_relabel_local hx₂) hn₃ (v := .int k t) (by simp) ?_) hdb
      refine append_at (hsz := by rw [List.size_toArray, hys.length, sizeLine_eq, List.length_take]; omega) zD fun h₆ hs₆ hD₆ => ?_
      have hs₆' : Heap.SameBut D h₃ h₆ := hs₆
      refine ⟨5 - (j + 1), by omega, h₆, _, G₃, j + 1, ys ++ [.int k t], _, rfl, hj4, rfl, hjl, Z₃.but hs₆' hDbd nD, bare₃, F₃.change hs₆' (Nat.ne_of_gt hLD) hD0, hn₃.at' fun o e => hs₆'.extBut _ o hCD e, fun p hp => ?_, ?_⟩
      · rcases List.mem_cons.mp hp with rfl | hp
        · exact ⟨hD₆.trans (congrArg some (lst_snoc ys _)), Nat.ne_of_gt hLD, hD0⟩
        · exact ⟨hs₆'.extBut _ _ (off1_ne oDn p hp) (k₃' _ _ (oN p hp) (off1_ne oCn p hp) (N' p (.tail _ hp)).1), (N' p (.tail _ hp)).2⟩
      · rw [List.take_add_one, hOj]
        exact IntsAre.append hys (IntsAre.cons _ _ IntsAre.nil)
  · rcases List.mem_cons.mp hp with rfl | hp
    · exact N₂ _ (.tail _ (.head _))
    · exact N₂ p (.tail _ (.tail _ (.tail _ (.tail _ (.tail _ (.tail _ (.tail _ (.tail _ hp))))))))
end
end Mine
end
section
open PySem PySem.W PyProof.Rows PySem.Calls PySem.Spec PyProof.Rows.LCg
namespace Mine
section
variable {prog : Program} {w : World} {A : Around} {E : Value → Shared → Prop} {s : Shared} {h₀ : Heap} {L : Addr} {m : Str → Option Value} {env : Env}
def TurnJ (h₀ : Heap) (L : Addr) (m : Str → Option Value) (s : Shared) (I : Addr) (oI : Obj) (C : Addr) (oC : Obj) (D : Addr) (ys : List Value) (J : List Value → List (Addr × Obj) → Prop) (y : Value) (s' : Shared) : Prop :=
  ∃ h' tk' nw', s' = { s with heap := h', toks := tk' } ∧ Fr h₀ L h' m ∧ News h₀ L h' ((I, oI) :: (C, oC) :: (D, lst ys) :: nw') ∧ Off3 I C D nw' ∧ J (ys ++ [y]) nw'
theorem TurnJ.mk {I : Addr} {oI : Obj} {C : Addr} {oC : Obj} {D : Addr} {ys : List Value} {J : List Value → List (Addr × Obj) → Prop} {y : Value} {h' : Heap} {tk' : Nat} {nw' : List (Addr × Obj)} (F : Fr h₀ L h' m) (N : News h₀ L h' ((I, oI) :: (C, oC) :: (D, lst ys) :: nw')) (o : Off3 I C D nw') (j : J (ys ++ [y]) nw') :
    TurnJ h₀ L m s I oI C oC D ys J y { s with heap := h', toks := tk' } := ⟨h', tk', nw', rfl, F, N, o, j⟩
/-- a comprehension over a list, by a statement on what is made -/
theorem Assign_ListComp_J {elt iter : Expr} {x y : Str} {px py : PySem.Pos} {scope : Scope} {cl : List (Str × Addr)} {pos spos : PySem.Pos} {ax : Addr} {its : Array Value} {Q : Flow → Shared → Prop} (F₀ : Fr h₀ L s.heap m) (hLe : env.locals = L)
    (hsw : swapsWith (.ListComp elt [⟨.Name x px, iter, [], 0⟩] scope pos) (some (.Name y py)) spos.line env = pure true)
    (hclos : closureFor scope env = pure cl) (hcell : ∀ y ∈ scope.names, y.2 ≠ .cell) (hkind : scope.kind = .function)
    (hnames : ∀ y ∈ scope.names, y.2 = .local → scope.names.lookup y.1 = some .local) (hx : scope.names.lookup x = some .local) (hy : env.kindOf y = some .local) (hp : (env.scope.kind == .class || (env.scope.kind == .module && env.locals != env.globals)) = false) (hh : A.handled = none) (hsz : its.size ≤ sizeLine)
    (J : Nat → List Value → List (Addr × Obj) → Prop) (hS : ∀ i ys nw, J i ys nw → SrcAt h₀ ax its nw)
    (he : wpAny (model prog w) A (eval iter env) (fun xv s₁ => Stp (∃ tk h₁ news, xv = .ref ax ∧ s₁ = { s with heap := h₁, toks := tk } ∧ Fr h₀ L h₁ m ∧ News h₀ L h₁ news ∧ J 0 [] news)) E s)
    (turn : ∀ i v I oI C oC D m₂ h tk (E' : Value → Shared → Prop) ys nw, its[i]? = some v → J i ys nw → NsObj oC m₂ → m₂ x = some v → Fr h₀ L h m → News h₀ L h ((I, oI) :: (C, oC) :: (D, lst ys) :: nw) → Off3 I C D nw → ((@Ne Nat I C) ∧ (@Ne Nat I D) ∧ (@Ne Nat C D)) →
      wpAny (model prog w) A (eval elt (compEnvC scope cl C env)) (fun y s' => Stp (TurnJ h₀ L m s I oI C oC D ys (J (i + 1)) y s')) E' { s with heap := h, toks := tk })
    (fin : ∀ D h tk ys nw, Fr h₀ L h (fun z => if z = y then some (.ref D) else m z) → News h₀ L h ((D, lst ys) :: nw) → Off1 D nw → J its.size ys nw → Q .next { s with heap := h, toks := tk })
    (hs : ∀ x, foldedSetIterable iter env x = pure x := by intro _; rfl) :
    wpAny (model prog w) A (exec (.Assign [.Name y py] (.ListComp elt [⟨.Name x px, iter, [], 0⟩] scope pos) spos) env) Q E s := by
  refine Assign_ListComp_U F₀ hLe hsw hclos hcell hkind hnames hx hy hp (wpAny_mono he (fun xv s₁ hh1 => ?_) fun _ _ e => e) hs
  obtain ⟨tk, h₁, news, rfl, rfl, F, N, hJ⟩ := Stp.out hh1
  refine .inl ⟨ax, its, news, rfl, hh, F, N, hS _ _ _ hJ, hsz, fun s₂ ⟨g, e⟩ => ?_⟩
  subst e
  have all : ∀ k i ys nw, i + k = its.size → J i ys nw → CompRest prog w A h₀ L m env elt x scope cl { s with heap := g, toks := tk } (SrcAt h₀ ax its) (fun i v => its[i]? = some v) (FinA h₀ L m { s with heap := g, toks := tk } y Q) k i ys nw := by
    intro k
    induction k with
    | zero =>
      intro i ys nw hi hJ
      rw [show i = its.size by omega] at hJ
      exact CompRest.zero fun D h tk' F' N' o => fin D h tk' ys nw F' N' o hJ
    | succ k ih =>
      intro i ys nw hi hJ
      refine CompRest.succ fun v I oI C oC D m₂ h tk' E' hP hNs hm F' N' off ne3 => ?_
      refine wpAny_mono (turn i v I oI C oC D m₂ h tk' E' ys nw hP hJ hNs hm F' N' off ne3) (fun y s' hy => ?_) fun _ _ e => e
      obtain ⟨h', tk'', nw', rfl, F'', N'', off', hJ'⟩ := Stp.out hy
      exact ⟨h', tk'', nw', rfl, F'', N'', off', hS _ _ _ hJ', ih (i + 1) _ _ (by omega) hJ'⟩
  exact all its.size 0 [] news (by omega) hJ
/-- a comprehension over a list, by a statement on what is made -/
theorem ListComp_JA {elt iter : Expr} {x : Str} {px : PySem.Pos} {scope : Scope} {cl : List (Str × Addr)} {pos : PySem.Pos} {Q : Value → Shared → Prop} (F₀ : Fr h₀ L s.heap m)
    (hclos : closureFor scope env = pure cl) (hcell : ∀ y ∈ scope.names, y.2 ≠ .cell) (hkind : scope.kind = .function)
    (hnames : ∀ y ∈ scope.names, y.2 = .local → scope.names.lookup y.1 = some .local) (hx : scope.names.lookup x = some .local) (hh : A.handled = none)
    (J : Addr → Array Value → Nat → List Value → List (Addr × Obj) → Prop) (hS : ∀ ax its i ys nw, J ax its i ys nw → SrcAt h₀ ax its nw ∧ its.size ≤ sizeLine)
    (he : wpAny (model prog w) A (eval iter env) (fun xv s₁ => Stp (∃ ax its tk h₁ news, xv = .ref ax ∧ s₁ = { s with heap := h₁, toks := tk } ∧ Fr h₀ L h₁ m ∧ News h₀ L h₁ news ∧ J ax its 0 [] news)) E s)
    (turn : ∀ ax its i v I oI C oC D m₂ h tk (E' : Value → Shared → Prop) ys nw, its[i]? = some v → J ax its i ys nw → NsObj oC m₂ → m₂ x = some v → Fr h₀ L h m → News h₀ L h ((I, oI) :: (C, oC) :: (D, lst ys) :: nw) → Off3 I C D nw → ((@Ne Nat I C) ∧ (@Ne Nat I D) ∧ (@Ne Nat C D)) →
      wpAny (model prog w) A (eval elt (compEnvC scope cl C env)) (fun y s' => Stp (TurnJ h₀ L m s I oI C oC D ys (J ax its (i + 1)) y s')) E' { s with heap := h, toks := tk })
    (fin : ∀ ax its D h tk ys nw, Fr h₀ L h m → News h₀ L h ((D, lst ys) :: nw) → Off1 D nw → J ax its its.size ys nw → Q (.ref D) { s with heap := h, toks := tk })
    (hs : ∀ x, foldedSetIterable iter env x = pure x := by intro _; rfl) :
    wpAny (model prog w) A (eval (.ListComp elt [⟨.Name x px, iter, [], 0⟩] scope pos) env) Q E s := by
  refine ListComp_U F₀ hclos hcell hkind hnames hx (wpAny_mono he (fun xv s₁ hh1 => ?_) fun _ _ e => e) hs
  obtain ⟨ax, its, tk, h₁, news, rfl, rfl, F, N, hJ⟩ := Stp.out hh1
  refine .inl ⟨ax, its, news, rfl, hh, F, N, (hS _ _ _ _ _ hJ).1, (hS _ _ _ _ _ hJ).2, fun s₂ ⟨g, e⟩ => ?_⟩
  subst e
  have all : ∀ k i ys nw, i + k = its.size → J ax its i ys nw → CompRest prog w A h₀ L m env elt x scope cl { s with heap := g, toks := tk } (SrcAt h₀ ax its) (fun i v => its[i]? = some v) (FinE h₀ L m { s with heap := g, toks := tk } Q) k i ys nw := by
    intro k
    induction k with
    | zero =>
      intro i ys nw hi hJ
      rw [show i = its.size by omega] at hJ
      exact CompRest.zero fun D h tk' F' N' o => fin ax its D h tk' ys nw F' N' o hJ
    | succ k ih =>
      intro i ys nw hi hJ
      refine CompRest.succ fun v I oI C oC D m₂ h tk' E' hP hNs hm F' N' off ne3 => ?_
      refine wpAny_mono (turn ax its i v I oI C oC D m₂ h tk' E' ys nw hP hJ hNs hm F' N' off ne3) (fun y s' hy => ?_) fun _ _ e => e
      obtain ⟨h', tk'', nw', rfl, F'', N'', off', hJ'⟩ := Stp.out hy
      exact ⟨h', tk'', nw', rfl, F'', N'', off', (hS _ _ _ _ _ hJ').1, ih (i + 1) _ _ (by omega) hJ'⟩
  exact all its.size 0 [] news (by omega) hJ
theorem Assign_ListComp_JA {elt iter : Expr} {x y : Str} {px py : PySem.Pos} {scope : Scope} {cl : List (Str × Addr)} {pos spos : PySem.Pos} {Q : Flow → Shared → Prop} (F₀ : Fr h₀ L s.heap m) (hLe : env.locals = L)
    (hsw : swapsWith (.ListComp elt [⟨.Name x px, iter, [], 0⟩] scope pos) (some (.Name y py)) spos.line env = pure true)
    (hclos : closureFor scope env = pure cl) (hcell : ∀ y ∈ scope.names, y.2 ≠ .cell) (hkind : scope.kind = .function)
    (hnames : ∀ y ∈ scope.names, y.2 = .local → scope.names.lookup y.1 = some .local) (hx : scope.names.lookup x = some .local) (hy : env.kindOf y = some .local) (hp : (env.scope.kind == .class || (env.scope.kind == .module && env.locals != env.globals)) = false) (hh : A.handled = none)
    (J : Addr → Array Value → Nat → List Value → List (Addr × Obj) → Prop) (hS : ∀ ax its i ys nw, J ax its i ys nw → SrcAt h₀ ax its nw ∧ its.size ≤ sizeLine)
    (he : wpAny (model prog w) A (eval iter env) (fun xv s₁ => Stp (∃ ax its tk h₁ news, xv = .ref ax ∧ s₁ = { s with heap := h₁, toks := tk } ∧ Fr h₀ L h₁ m ∧ News h₀ L h₁ news ∧ J ax its 0 [] news)) E s)
    (turn : ∀ ax its i v I oI C oC D m₂ h tk (E' : Value → Shared → Prop) ys nw, its[i]? = some v → J ax its i ys nw → NsObj oC m₂ → m₂ x = some v → Fr h₀ L h m → News h₀ L h ((I, oI) :: (C, oC) :: (D, lst ys) :: nw) → Off3 I C D nw → ((@Ne Nat I C) ∧ (@Ne Nat I D) ∧ (@Ne Nat C D)) →
      wpAny (model prog w) A (eval elt (compEnvC scope cl C env)) (fun y s' => Stp (TurnJ h₀ L m s I oI C oC D ys (J ax its (i + 1)) y s')) E' { s with heap := h, toks := tk })
    (fin : ∀ ax its D h tk ys nw, Fr h₀ L h (fun z => if z = y then some (.ref D) else m z) → News h₀ L h ((D, lst ys) :: nw) → Off1 D nw → J ax its its.size ys nw → Q .next { s with heap := h, toks := tk })
    (hs : ∀ x, foldedSetIterable iter env x = pure x := by intro _; rfl) :
    wpAny (model prog w) A (exec (.Assign [.Name y py] (.ListComp elt [⟨.Name x px, iter, [], 0⟩] scope pos) spos) env) Q E s := by
  refine Assign_ListComp_U F₀ hLe hsw hclos hcell hkind hnames hx hy hp (wpAny_mono he (fun xv s₁ hh1 => ?_) fun _ _ e => e) hs
  obtain ⟨ax, its, tk, h₁, news, rfl, rfl, F, N, hJ⟩ := Stp.out hh1
  refine .inl ⟨ax, its, news, rfl, hh, F, N, (hS _ _ _ _ _ hJ).1, (hS _ _ _ _ _ hJ).2, fun s₂ ⟨g, e⟩ => ?_⟩
  subst e
  have all : ∀ k i ys nw, i + k = its.size → J ax its i ys nw → CompRest prog w A h₀ L m env elt x scope cl { s with heap := g, toks := tk } (SrcAt h₀ ax its) (fun i v => its[i]? = some v) (FinA h₀ L m { s with heap := g, toks := tk } y Q) k i ys nw := by
    intro k
    induction k with
    | zero =>
      intro i ys nw hi hJ
      rw [show i = its.size by omega] at hJ
      exact CompRest.zero fun D h tk' F' N' o => fin ax its D h tk' ys nw F' N' o hJ
    | succ k ih =>
      intro i ys nw hi hJ
      refine CompRest.succ fun v I oI C oC D m₂ h tk' E' hP hNs hm F' N' off ne3 => ?_
      refine wpAny_mono (turn ax its i v I oI C oC D m₂ h tk' E' ys nw hP hJ hNs hm F' N' off ne3) (fun y s' hy => ?_) fun _ _ e => e
      obtain ⟨h', tk'', nw', rfl, F'', N'', off', hJ'⟩ := Stp.out hy
      exact ⟨h', tk'', nw', rfl, F'', N'', off', (hS _ _ _ _ _ hJ').1, ih (i + 1) _ _ (by omega) hJ'⟩
  exact all its.size 0 [] news (by omega) hJ
end
end Mine
end
section
open PySem PySem.W PyProof.Rows PySem.Calls
namespace Mine
local macro_rules | `(tactic| walk_at "mine Pc 0") => `(tactic| fail)
local macro_rules | `(tactic| walk_at "mine Pc 1") => `(tactic| fail)
local macro_rules | `(tactic| walk_at "mine Pc 2") => `(tactic| fail)
local macro_rules | `(tactic| walk_at "mine Pc 3") => `(tactic| fail)
local macro_rules | `(tactic| walk_at "mine Pc 4") => `(tactic| fail)
local macro_rules | `(tactic| walk_at "mine Pc 5") => `(tactic| fail)
local macro_rules | `(tactic| walk_at "mine Pc 6") => `(tactic| fail)
local macro_rules | `(tactic| walk_at "mine Pc 7") => `(tactic| fail)
local macro_rules | `(tactic| walk_at "mine Pc 8") => `(tactic| fail)
local macro_rules | `(tactic| walk_at "mine Pc 9") => `(tactic| fail)
local macro_rules | `(tactic| walk_at "mine Pc 10") => `(tactic| fail)
local macro_rules | `(tactic| walk_at "mine Pc 11") => `(tactic| fail)
local macro_rules | `(tactic| walk_at "mine Pc 12") => `(tactic| fail)
local macro_rules | `(tactic| walk_at "mine Pc 13") => `(tactic| fail)
local macro_rules | `(tactic| walk_at "mine Pc 14") => `(tactic| fail)
local macro_rules | `(tactic| walk_at "mine Pc 15") => `(tactic| fail)
local macro_rules | `(tactic| walk_at "mine Pc 16") => `(tactic| fail)
local macro_rules | `(tactic| walk_at "mine Pc 17") => `(tactic| fail)
local macro_rules | `(tactic| walk_at "mine Pc 18") => `(tactic| fail)
local macro_rules | `(tactic| walk_at "mine Pc 19") => `(tactic| fail)
local macro_rules | `(tactic| walk_at "mine Pc 20") => `(tactic| fail)
local macro_rules | `(tactic| walk_at "mine Pc 21") => `(tactic| fail)
local macro_rules | `(tactic| walk_at "mine Pc 22") => `(tactic| fail)
local macro_rules | `(tactic| walk_at "mine Pc 23") => `(tactic| fail)
local macro_rules | `(tactic| walk_at "mine Pc 24") => `(tactic| fail)
local macro_rules | `(tactic| walk_at "mine Pc 25") => `(tactic| fail)
local macro_rules | `(tactic| walk_at "mine Pc 26") => `(tactic| fail)
local macro_rules | `(tactic| walk_at "mine Pc 27") => `(tactic| fail)
local macro_rules | `(tactic| walk_at "mine Pc 28") => `(tactic| fail)
local macro_rules | `(tactic| walk_at "mine Pc 29") => `(tactic| fail)
local macro_rules | `(tactic| walk_at "mine Pc 30") => `(tactic| fail)
local macro_rules | `(tactic| walk_at "mine Pc 31") => `(tactic| fail)
local macro_rules | `(tactic| walk_at "mine Pc 32") => `(tactic| fail)
theorem fillKp (P : Params) : hd.heap_1 P = hd.heap_1 P ∧ PySem.Challenge.rw_to0014_01 = PySem.Challenge.rw_to0014_01 := by
  k_fill
  exact ⟨rfl, rfl⟩
local macro_rules | `(tactic| cell_enter) => `(tactic| (refine' enter_plain ?k3 ?k5 ?k6 ?k7 ?k8 ?k9 ?kB ?_ ?c2 ?c3 ?c4 ?c5; (case k3 => k_asm); (case k5 => k_asm); (case k6 => k_is); (case k7 => k_is); (case k8 => omega); (case k9 => exact BindsTo.of_eq rfl); (case c5 => decide); (case kB => exact locs rfl); (case c2 => exact rfl); (case c3 => exact rfl); (case c4 => exact rfl); k_whole; intro L' h' hL' F' N'; (try dsimp only); (try k_fold)))
local macro_rules | `(tactic| ktr_enter) => `(tactic| (refine' enter_cells ?k3 ?k5 ?k6 ?k7 ?k8 ?k9 ?kB ?kD ?_ ?c2 ?c3 ?c4; (case k3 => k_asm); (case k5 => k_asm); (case k6 => k_is); (case k7 => k_is); (case k8 => omega); (case k9 => exact BindsTo.of_eq rfl); (case kB => exact rfl); (case kD => decide +kernel); (case c2 => exact rfl); (case c3 => exact rfl); (case c4 => exact rfl); k_whole; intro L' h' tk' cells' hL' F' N' Y'; k_cells Y'; (try simp only [List.cons_append, List.nil_append] at N'); (try dsimp only); (try k_fold)))
theorem gi_0 {a b c d : Int} (ha : 1 ≤ a ∧ a ≤ 5) (hb : 1 ≤ b ∧ b ≤ 5) : gi 4 [a, b, 0, c, d] none = [a, b, b, b] := by
  have a1 : a ≠ 127 := by omega
  have a2 : a ≠ 0 := by omega
  have b1 : b ≠ 127 := by omega
  have b2 : b ≠ 0 := by omega
  simp [gi, gr, a1, a2, b1, b2, List.replicate]
theorem gi_1 {a b c d : Int} (ha : 1 ≤ a ∧ a ≤ 5) (hb : 1 ≤ b ∧ b ≤ 5) (hc : 1 ≤ c ∧ c ≤ 5) : gi 4 [a, b, c, 127, d] none = [a, b, c] := by
  have a1 : a ≠ 127 := by omega
  have a2 : a ≠ 0 := by omega
  have b1 : b ≠ 127 := by omega
  have b2 : b ≠ 0 := by omega
  have c1 : c ≠ 127 := by omega
  have c2 : c ≠ 0 := by omega
  simp [gi, gr, a1, a2, b1, b2, c1, c2]
theorem gi_2 {a b c d : Int} (ha : 1 ≤ a ∧ a ≤ 5) (hb : 1 ≤ b ∧ b ≤ 5) (hc : 1 ≤ c ∧ c ≤ 5) (hd : 1 ≤ d ∧ d ≤ 5) : gi 4 [a, b, c, d] none = [a, b, c, d] := by
  have a1 : a ≠ 127 := by omega
  have a2 : a ≠ 0 := by omega
  have b1 : b ≠ 127 := by omega
  have b2 : b ≠ 0 := by omega
  have c1 : c ≠ 127 := by omega
  have c2 : c ≠ 0 := by omega
  have d1 : d ≠ 127 := by omega
  have d2 : d ≠ 0 := by omega
  simp [gi, gr, a1, a2, b1, b2, c1, c2, d1, d2]
section
local macro_rules | `(tactic| walk_at "call ref") => `(tactic| (with_reducible show wpAny _ _ (call (Value.ref 59) _) _ _ _; refine Stp.out ?_))
local macro_rules | `(tactic| walk_at "call type:zip") => `(tactic| (with_reducible show wpAny _ _ (call (Value.type "zip") _) _ _ _; refine Stp.out ?_))
local macro_rules | `(tactic| walk_at "exec Assign cons ListComp") => `(tactic| (with_reducible show wpAny _ _ (exec _ _) _ _ _; refine Stp.out ?_))
set_option maxRecDepth 100000 in
set_option maxHeartbeats 8000000 in
theorem pieces_spec {w : World} {loose : List Str} {mean : ExcName → Option Value} {mg mb : Str → Option Value} (dp un : Nat) (gd : Option (List Code)) (outer : List Env) (s : Shared) (Q E : Value → Shared → Prop)
   (X : (hd.heap_1 w.params).In s.heap) (T : Top vw loose mean mg mb s.heap) (hd : dp + 20 < recursionLimit) (hu : un + 200 < cLine)
   (c : Addr) (vs : List Value) (ns : List Int) (hc : s.heap.IsList c vs.toArray) (hv : IntsAre vs ns) (hn : ns.length = 4) (hb : ∀ a ∈ ns, 0 ≤ a ∧ a < 1000000)
(hbare : AllBare s.gens)
   (hret : ∀ (t r1 r2 : Addr) (w1 w2 : List Value) (n1 n2 n3 : Nat) (ps : List Int) (h' : Heap) (tk' : Nat) (G' : Array GenState), s.heap.get? t = none → s.heap.get? r1 = none → s.heap.get? r2 = none → t ≠ r1 → t ≠ r2 → r1 ≠ r2 → h'.get? t = some { cls := .type "tuple", data := .seq #[.ref r1, .ref r2] n3 } →
     h'.get? r1 = some (listOf w1.toArray n1) → h'.get? r2 = some (listOf w2.toArray n2) → IntsAre w1 ps → IntsAre w2 ps → (ps.length = 3 ∨ ps.length = 4) → (∀ z ∈ ps, 1 ≤ z ∧ z ≤ 5) →
     (∀ b o, s.heap.get? b = some o → h'.get? b = some o) → AllBare G' → Q (.ref t) { s with gens := G', heap := h', toks := tk' }) :
   wpAny (model PySem.Challenge.rw_to0014_01.row.prog w) (Ar dp un gd outer) (call (.ref 89) [.ref c]) Q E s := by
  w_top off
  refine wpAny_call ?_
  k_dflt cell_enter
  k_steps
  refine Stp.mk ?_
  rename Fr _ _ _ _ => kF
  rename News _ _ _ _ => kN
  have hvl := hv.length
  refine Assign_ListComp_J (ax := c) (its := vs.toArray) kF rfl rfl rfl (by decide) rfl (by decide) rfl rfl rfl rfl (by rw [List.size_toArray, sizeLine_eq]; omega)
    (fun i ys nw => nw = [] ∧ ∃ zs, IntsAre ys zs ∧ zs.length = i ∧ ∀ z ∈ zs, 1 ≤ z ∧ z ≤ 5) (fun _ _ _ _ => .inl hc) ?_ ?_ ?_
  · k_steps
    rename Fr _ _ _ _ => kF1
    rename News _ _ _ _ => kN1
    exact Stp.mk ⟨_, _, _, rfl, rfl, kF1, kN1, rfl, [], IntsAre.nil, rfl, by simp⟩
  · rintro i v I oI C oC D m₂ h tk E' ys nw hi ⟨rfl, zs, hys, hzl, hzb⟩ hNs hm F N off ⟨e1, e2, e3⟩
    clear kF kN
    have hi4 : i < ns.length := by rw [← hvl]; have := (Array.getElem?_eq_some_iff.mp hi).1; simpa using this
    obtain ⟨ti, hti⟩ := hv.get i ns[i] (by simp [hi4])
    have hvi : v = .int ns[i] ti := by
      have : vs[i]? = some v := by simpa using hi
      rw [hti] at this; exact (Option.some.inj this).symm
    subst hvi
    obtain ⟨b1, b2⟩ := hb _ (List.getElem_mem hi4)
    generalize ns[i] = a at *
    k_steps
    all_goals rename Fr _ _ _ _ => kF1
    all_goals rename News _ _ _ _ => kN1
    all_goals first
      | (refine Stp.mk (TurnJ.mk kF1 kN1 off ⟨rfl, _, IntsAre.append hys (IntsAre.cons _ _ IntsAre.nil), by simp [hzl], ?_⟩))
      | (refine Stp.mk (TurnJ.mk kF1 (Mine.News.drop1 kN1) off ⟨rfl, _, IntsAre.append hys (IntsAre.cons _ _ IntsAre.nil), by simp [hzl], ?_⟩))
      | skip
    all_goals first
      | (intro z hz; rcases List.mem_append.mp hz with hz | hz; exact hzb z hz; rw [List.mem_singleton.mp hz]; decide)
      | skip
  · rintro D h tk ys nw F N oD ⟨rfl, zs, hys, hzl, hzb⟩
    clear kF kN
    have hz4 : zs.length = 4 := by rw [hzl, List.size_toArray, hvl, hn]
    have hb2 := hv
    match zs, hz4, hys, hzb with
    | [z1, z2, z3, z4], _, hys, hzb =>
    have hz1 := hzb z1 (by simp)
    have hz2 := hzb z2 (by simp)
    have hz3 := hzb z3 (by simp)
    have hz4' := hzb z4 (by simp)
    k_steps
    · refine Stp.mk ?_
      rename Fr _ _ _ _ => kF
      rename News _ _ _ _ => kN
      rename_i h1 tk1 D2 ws2 h2 hI2 hC2 hL2 l2 l0 h3 l3 D3 ws3 h4 hI3 l4 D4 ws4 h5 hI4 hC4 hL4 l5 D5 ws5 h6 hI5 l6 D6 ws6 h7 hI6 hC6 hL6 l7 lb h8 l8 D7 ws7 h9 hI7 l9 D8 ws8 h10 hI8 hC8 hL8 l10 D9 ws9 h11 hI9 l11 TT h12 l12 kcsE kcsM h13
      refine Assign_ListComp_zip (oc := listOf ws5.toArray 0) (nc := 0) (c := D5) (items := ws5.toArray) (O := gi 4 [z1, z2, 0, z3, z4] none) rfl rfl rfl rfl kF kN rfl (by decide) rfl (by decide) rfl rfl rfl rfl (by show dp + 1 < _; omega) T.nolimit ?hcn rfl rfl (gi_len _ _ _) ?hhe ?ffin
      case hhe =>
        k_steps
        rename Fr _ _ _ _ => kF1
        rename News _ _ _ _ => kN1
        rename IsRange _ _ _ _ _ _ _ _ => hr
        have hcurL := kF1.ns.lt
        have hoN := fun p hp => Heap.lt_size (kN1 p hp).1
        have hRne := Nat.ne_of_lt (hoN (D5, listOf ws5.toArray 0) (by repeat (first | exact List.Mem.head _ | apply List.Mem.tail)))
        refine Stp.mk (gi_spec (dp + 1) (un + 3) gd _ _ _ _ (fun a o e => kF1.keep _ _ (X a o e)) (T.keeps kF1.keep) (by omega) _ fun h' tk' gs mg hsz hns keep hg hgb go => ?_)
        have hab := kF1.above
        have kF2 := kF1.keeps keep
        have kN2 := kN1.grown keep
        have hr2 := keep _ _ hr
        clear kF1 kN1
        k_steps
        rename Fr _ _ _ _ => kF3
        rename News _ _ _ _ => kN3
        refine Stp.mk (call_zip_rg hr2 hg fun h'' hz hTI hTO hri hsz2 keep2 => ?_)
        refine Stp.mk ⟨_, h'', _, _, _, _, _, _, _, _, gs, mg, rfl, rfl, ⟨kF3.keeps keep2, kN3.grown keep2, hcurL, hoN, Nat.lt_succ_self _, ?_, Nat.lt_succ_self _, Nat.lt_succ_self _, Nat.lt_succ_self _, hz, hTI, hTO, hri, hg.keeps keep2, Array.getElem?_push_size .., hns.keeps keep2, ?_, ?_⟩⟩
        · show _ < h'.objs.size
          rw [hsz]; exact Nat.lt_succ_self _
        · intro x hx
          rcases Array.mem_push.mp hx with hx | rfl
          · exact hbare x hx
          · exact hgb
        · exact fun A' s₀ hh hb' hn' hl' => go A' s.heap s₀ 3 _ [z1, z2, 0, z3, z4] hh X T (Nat.le_trans hab (Nat.le_of_lt hcurL)) hRne hI5 (by simp; omega) hb' hn' hl'
      case hcn => exact (by repeat (first | exact List.Mem.head _ | apply List.Mem.tail))
      case ffin =>
        rintro D' hD tkD GD ysD F N oD' hysD bareD
        clear kF kN
        k_steps
        rename Fr _ _ _ _ => F9
        rename News _ _ _ _ => N9
        rename_i DU wsU h20 hIU l20 DV wsV h21 hIV hCV hLV l21 TV h22 l22 kE2 kM2 TR h23 l23
        show Lv s.heap _ Q (.ref TR) _
        refine Lv.mk F9 fun keep => ?_
        have mT := N9 _ (.head _)
        have m1 := N9 (D', LCg.lst ysD) (by repeat (first | exact List.Mem.head _ | apply List.Mem.tail))
        have m2 := N9 (DU, listOf wsU.toArray 0) (by repeat (first | exact List.Mem.head _ | apply List.Mem.tail))
        rw [gi_0 (hzb z1 (by simp)) (hzb z2 (by simp))] at hysD
        refine hret TR D' DU ysD wsU _ _ _ [z1, z2, z2, z2] _ _ _ mT.2.2 m1.2.2 m2.2.2 ?_ ?_ ?_ mT.1 m1.1 m2.1 hysD hIU (.inr rfl) ?_ keep bareD
        · exact Nat.ne_of_gt (by omega)
        · exact Nat.ne_of_gt (by omega)
        · exact Nat.ne_of_lt (by omega)
        · intro z hz
          simp only [List.mem_cons, List.not_mem_nil, or_false] at hz
          rcases hz with rfl | rfl | rfl | rfl <;> assumption
    · refine Stp.mk ?_
      rename Fr _ _ _ _ => kF
      rename News _ _ _ _ => kN
      rename_i h1 tk1 D2 ws2 h2 hI2 hC2 hL2 l2 l0 h3 l3 D3 ws3 h4 hI3 l4 D4 ws4 h5 hI4 hC4 hL4 l5 D5 ws5 h6 hI5 l6 D6 ws6 h7 hI6 hC6 hL6 l7 lb h8 l8 D7 ws7 h9 hI7 l9 D8 ws8 h10 hI8 hC8 hL8 l10 D9 ws9 h11 hI9 l11 TT h12 l12 kcsE kcsM h13
      refine Assign_ListComp_zip (oc := listOf ws9.toArray 0) (nc := 0) (c := D9) (items := ws9.toArray) (O := gi 4 [z1, z2, z3, 127, z4] none) rfl rfl rfl rfl kF kN rfl (by decide) rfl (by decide) rfl rfl rfl rfl (by show dp + 1 < _; omega) T.nolimit ?hcn rfl rfl (gi_len _ _ _) ?hhe ?ffin
      case hhe =>
        k_steps
        rename Fr _ _ _ _ => kF1
        rename News _ _ _ _ => kN1
        rename IsRange _ _ _ _ _ _ _ _ => hr
        have hcurL := kF1.ns.lt
        have hoN := fun p hp => Heap.lt_size (kN1 p hp).1
        have hRne := Nat.ne_of_lt (hoN (D9, listOf ws9.toArray 0) (by repeat (first | exact List.Mem.head _ | apply List.Mem.tail)))
        refine Stp.mk (gi_spec (dp + 1) (un + 3) gd _ _ _ _ (fun a o e => kF1.keep _ _ (X a o e)) (T.keeps kF1.keep) (by omega) _ fun h' tk' gs mg hsz hns keep hg hgb go => ?_)
        have hab := kF1.above
        have kF2 := kF1.keeps keep
        have kN2 := kN1.grown keep
        have hr2 := keep _ _ hr
        clear kF1 kN1
        k_steps
        rename Fr _ _ _ _ => kF3
        rename News _ _ _ _ => kN3
        refine Stp.mk (call_zip_rg hr2 hg fun h'' hz hTI hTO hri hsz2 keep2 => ?_)
        refine Stp.mk ⟨_, h'', _, _, _, _, _, _, _, _, gs, mg, rfl, rfl, ⟨kF3.keeps keep2, kN3.grown keep2, hcurL, hoN, Nat.lt_succ_self _, ?_, Nat.lt_succ_self _, Nat.lt_succ_self _, Nat.lt_succ_self _, hz, hTI, hTO, hri, hg.keeps keep2, Array.getElem?_push_size .., hns.keeps keep2, ?_, ?_⟩⟩
        · show _ < h'.objs.size
          rw [hsz]; exact Nat.lt_succ_self _
        · intro x hx
          rcases Array.mem_push.mp hx with hx | rfl
          · exact hbare x hx
          · exact hgb
        · exact fun A' s₀ hh hb' hn' hl' => go A' s.heap s₀ 3 _ [z1, z2, z3, 127, z4] hh X T (Nat.le_trans hab (Nat.le_of_lt hcurL)) hRne hI9 (by simp; omega) hb' hn' hl'
      case hcn => exact (by repeat (first | exact List.Mem.head _ | apply List.Mem.tail))
      case ffin =>
        rintro D' hD tkD GD ysD F N oD' hysD bareD
        clear kF kN
        k_steps
        rename Fr _ _ _ _ => F9
        rename News _ _ _ _ => N9
        rename_i DU wsU h20 hIU l20 DV wsV h21 hIV hCV hLV l21 TV h22 l22 kE2 kM2 TR h23 l23
        show Lv s.heap _ Q (.ref TR) _
        refine Lv.mk F9 fun keep => ?_
        have mT := N9 _ (.head _)
        have m1 := N9 (D', LCg.lst ysD) (by repeat (first | exact List.Mem.head _ | apply List.Mem.tail))
        have m2 := N9 (DV, listOf wsV.toArray 0) (by repeat (first | exact List.Mem.head _ | apply List.Mem.tail))
        rw [gi_1 hz1 hz2 hz3] at hysD
        refine hret TR D' DV ysD wsV _ _ _ [z1, z2, z3] _ _ _ mT.2.2 m1.2.2 m2.2.2 ?_ ?_ ?_ mT.1 m1.1 m2.1 hysD hIV (.inl rfl) ?_ keep bareD
        · exact Nat.ne_of_gt (by omega)
        · exact Nat.ne_of_gt (by omega)
        · exact Nat.ne_of_lt (by omega)
        · intro z hz
          simp only [List.mem_cons, List.not_mem_nil, or_false] at hz
          rcases hz with rfl | rfl | rfl <;> assumption
    · refine Stp.mk ?_
      rename Fr _ _ _ _ => kF
      rename News _ _ _ _ => kN
      rename_i h1 tk1 D2 ws2 h2 hI2 hC2 hL2 l2 l0 h3 l3 D3 ws3 h4 hI3 l4 D4 ws4 h5 hI4 hC4 hL4 l5 D5 ws5 h6 hI5 l6 D6 ws6 h7 hI6 hC6 hL6 l7 lb h8 l8 D7 ws7 h9 hI7 l9 D8 ws8 h10 hI8 hC8 hL8 l10 D9 ws9 h11 hI9 l11 TT h12 l12 kcsE kcsM h13
      refine Assign_ListComp_zip (oc := LCg.lst ys) (nc := ys.length) (c := D) (items := ys.toArray) (O := gi 4 [z1, z2, z3, z4] none) rfl rfl rfl rfl kF kN rfl (by decide) rfl (by decide) rfl rfl rfl rfl (by show dp + 1 < _; omega) T.nolimit ?hcn rfl rfl (gi_len _ _ _) ?hhe ?ffin
      case hhe =>
        k_steps
        rename Fr _ _ _ _ => kF1
        rename News _ _ _ _ => kN1
        rename IsRange _ _ _ _ _ _ _ _ => hr
        have hcurL := kF1.ns.lt
        have hoN := fun p hp => Heap.lt_size (kN1 p hp).1
        have hRne := Nat.ne_of_lt (hoN (D, LCg.lst ys) (by repeat (first | exact List.Mem.head _ | apply List.Mem.tail)))
        refine Stp.mk (gi_spec (dp + 1) (un + 3) gd _ _ _ _ (fun a o e => kF1.keep _ _ (X a o e)) (T.keeps kF1.keep) (by omega) _ fun h' tk' gs mg hsz hns keep hg hgb go => ?_)
        have hab := kF1.above
        have kF2 := kF1.keeps keep
        have kN2 := kN1.grown keep
        have hr2 := keep _ _ hr
        clear kF1 kN1
        k_steps
        rename Fr _ _ _ _ => kF3
        rename News _ _ _ _ => kN3
        refine Stp.mk (call_zip_rg hr2 hg fun h'' hz hTI hTO hri hsz2 keep2 => ?_)
        refine Stp.mk ⟨_, h'', _, _, _, _, _, _, _, _, gs, mg, rfl, rfl, ⟨kF3.keeps keep2, kN3.grown keep2, hcurL, hoN, Nat.lt_succ_self _, ?_, Nat.lt_succ_self _, Nat.lt_succ_self _, Nat.lt_succ_self _, hz, hTI, hTO, hri, hg.keeps keep2, Array.getElem?_push_size .., hns.keeps keep2, ?_, ?_⟩⟩
        · show _ < h'.objs.size
          rw [hsz]; exact Nat.lt_succ_self _
        · intro x hx
          rcases Array.mem_push.mp hx with hx | rfl
          · exact hbare x hx
          · exact hgb
        · exact fun A' s₀ hh hb' hn' hl' => go A' s.heap s₀ 3 _ [z1, z2, z3, z4] hh X T (Nat.le_trans hab (Nat.le_of_lt hcurL)) hRne hys (by simp; omega) hb' hn' hl'
      case hcn => exact (by repeat (first | exact List.Mem.head _ | apply List.Mem.tail))
      case ffin =>
        rintro D' hD tkD GD ysD F N oD' hysD bareD
        clear kF kN
        k_steps
        rename Fr _ _ _ _ => F9
        rename News _ _ _ _ => N9
        rename_i DU wsU h20 hIU l20 DV wsV h21 hIV hCV hLV l21 TV h22 l22 kE2 kM2 TR h23 l23
        show Lv s.heap _ Q (.ref TR) _
        refine Lv.mk F9 fun keep => ?_
        have mT := N9 _ (.head _)
        have m1 := N9 (D', LCg.lst ysD) (by repeat (first | exact List.Mem.head _ | apply List.Mem.tail))
        have m2 := N9 (D, LCg.lst ys) (by repeat (first | exact List.Mem.head _ | apply List.Mem.tail))
        rw [gi_2 hz1 hz2 hz3 hz4'] at hysD
        refine hret TR D' D ysD ys _ _ _ [z1, z2, z3, z4] _ _ _ mT.2.2 m1.2.2 m2.2.2 ?_ ?_ ?_ mT.1 m1.1 m2.1 hysD hys (.inr rfl) ?_ keep bareD
        · exact Nat.ne_of_gt (by omega)
        · exact Nat.ne_of_gt (by omega)
        · exact Ne.symm (off1_ne oD' (D, LCg.lst ys) (by repeat (first | exact List.Mem.head _ | apply List.Mem.tail)))
        · intro z hz
          simp only [List.mem_cons, List.not_mem_nil, or_false] at hz
          rcases hz with rfl | rfl | rfl | rfl <;> assumption
end
end Mine
end
section
open PySem PySem.W PyProof.Rows
namespace Mine
def f3 (σ : Int × Int × Int) (r q : Nat) : Int × Int × Int :=
  let d : Int := if q = 1 then -1 else 1
  if r = 0 then (σ.1 + d, σ.2.1, σ.2.2) else if r = 1 then (σ.1, σ.2.1 + d, σ.2.2) else (σ.1, σ.2.1, σ.2.2 + d)
theorem count_23 (D M : Nat) : (rdij D M).count 23 = D % 3 := by simp [rdij, List.count_append, List.count_replicate]
theorem count_22 (D M : Nat) : (rdij D M).count 22 = M % 2 := by simp [rdij, List.count_append, List.count_replicate]
theorem s3_rdij (σ : Int × Int × Int) (D M : Nat) : s3 σ (rdij D M) = f3 σ (D % 3) (M % 2) := by
  unfold s3 f3
  rw [count_23, count_22]
def chs (p : List Int) : List (List Int) := (List.range (2 ^ p.length)).map fun j : Nat => chosenL (j : Int) 0 p
def fF (t : Int) (p : List Int) : Int × Int × Int := (chs p).foldl (fun σ ch => f3 σ ((1 + t + ch.sum) % 3).toNat (ch.length % 2)) (0, 0, 0)
theorem chosen_map (g : Int → Int) (k : Int) : ∀ (l : List Int) (j : Nat), chosenL k j (l.map g) = (chosenL k j l).map g
  | [], _ => rfl
  | a :: l, j => by
    rw [List.map_cons, chosenL, chosenL, chosen_map g k l (j + 1)]
    split <;> rfl
theorem sum_mod (l : List Int) : (l.map (· % 3)).sum % 3 = l.sum % 3 := by
  induction l with
  | nil => rfl
  | cons a l ih => simp only [List.map_cons, List.sum_cons]; omega
theorem fF_mod (t : Int) (p : List Int) : fF t p = fF t (p.map (· % 3)) := by
  unfold fF chs
  rw [List.length_map]
  simp only [chosen_map, List.foldl_map]
  congr 1
  funext σ j
  rw [List.length_map]
  congr 2
  have := sum_mod (chosenL (j : Int) 0 p)
  omega
theorem fmod3 (a : Int) : a.fmod 3 = a % 3 := by rw [Int.fmod_eq_emod_of_nonneg a (by decide)]
theorem told_mod (t : Int) (p : List Int) : toldL p t = toldL (p.map (· % 3)) t := by
  have h0 : ((p.map (· % 3)).filter (fun a => a.fmod 3 == 0)) = (p.filter (fun a => a.fmod 3 == 0)).map (· % 3) := by
    rw [List.filter_map]
    congr 1
    refine List.filter_congr fun a _ => ?_
    simp only [Function.comp, fmod3]
    congr 1
    omega
  have h2 : ((p.map (· % 3)).filter (fun a => a.fmod 3 == 2)) = (p.filter (fun a => a.fmod 3 == 2)).map (· % 3) := by
    rw [List.filter_map]
    congr 1
    refine List.filter_congr fun a _ => ?_
    simp only [Function.comp, fmod3]
    congr 1
    omega
  unfold toldL
  rw [h0, h2]
  simp only [List.length_map, List.map_eq_nil_iff]
def good (t : Int) (p : List Int) : Bool := let σ := fF t p; [σ.1, σ.2.1, σ.2.2] == toldL p t
theorem fin3 : ∀ t a b c : Fin 3, good (t.val + 1 : Nat) [(a.val : Int), (b.val : Int), (c.val : Int)] = true := by decide +kernel
theorem fin4 : ∀ t a b c d : Fin 3, good (t.val + 1 : Nat) [(a.val : Int), (b.val : Int), (c.val : Int), (d.val : Int)] = true := by decide +kernel
theorem law_math (p : List Int) (t : Int) (hp : p.length = 3 ∨ p.length = 4) (ht : 1 ≤ t ∧ t ≤ 3) : (let σ := fF t p; [σ.1, σ.2.1, σ.2.2]) = toldL p t := by
  rw [fF_mod, told_mod]
  have key : good t (p.map (· % 3)) = true := by
    have ht' : t = (((t - 1).toNat + 1 : Nat) : Int) := by omega
    have hx : ∀ a : Int, a % 3 = (((a % 3).toNat : Nat) : Int) := fun a => by omega
    have hl : ∀ a : Int, (a % 3).toNat < 3 := fun a => by omega
    rcases hp with h | h
    · match p, h with
      | [a, b, c], _ =>
        have := fin3 ⟨(t - 1).toNat, by omega⟩ ⟨(a % 3).toNat, hl a⟩ ⟨(b % 3).toNat, hl b⟩ ⟨(c % 3).toNat, hl c⟩
        dsimp only at this
        rw [← ht', ← hx a, ← hx b, ← hx c] at this
        exact this
    · match p, h with
      | [a, b, c, d], _ =>
        have := fin4 ⟨(t - 1).toNat, by omega⟩ ⟨(a % 3).toNat, hl a⟩ ⟨(b % 3).toNat, hl b⟩ ⟨(c % 3).toNat, hl c⟩ ⟨(d % 3).toNat, hl d⟩
        dsimp only at this
        rw [← ht', ← hx a, ← hx b, ← hx c, ← hx d] at this
        exact this
  exact eq_of_beq key
end Mine
end
section
open PySem
open Builtin Builtin.Str StrLaws
namespace Mine
def textL (R : List (Nat × Nat)) : List Nat := R.flatMap fun r => rowL r.1 r.2 ++ [13, 10]
theorem textL_cons (r : Nat × Nat) (R : List (Nat × Nat)) : textL (r :: R) = rowL r.1 r.2 ++ ([13, 10] ++ textL R) := by
  show (rowL r.1 r.2 ++ [13, 10]) ++ textL R = _
  rw [List.append_assoc]
theorem parts_mail (x y : Str) (hy : y.cps.toList = [13, 10]) : ∀ (R : List (Nat × Nat)) (a : Nat) (cuts : List Nat) (f : Nat), x.cps.toList.drop a = textL R → a ≤ x.length → ChainG x y x.length a cuts f → (∀ k, f ≤ k → ¬ At x y x.length k) →
    (partsFrom x y.length a cuts).map (·.cps.toList) = R.map (fun r => rowL r.1 r.2) ++ [[]] ∧ (R ≠ [] → cuts ≠ []) := by
  have hyl : y.length = 2 := by
    have : y.length = y.cps.toList.length := by rw [Array.length_toList]; rfl
    rw [this, hy]; rfl
  have hxl : x.cps.toList.length = x.length := by rw [Array.length_toList]; rfl
  intro R
  induction R with
  | nil =>
    intro a cuts f hd ha hc hf
    have hlen : x.length ≤ a := by
      have := List.drop_eq_nil_iff.mp hd
      omega
    cases cuts with
    | nil =>
      refine ⟨?_, fun h => absurd rfl h⟩
      show [(strSub x a x.length).cps.toList] = [[]]
      rw [strSub_toList, hd]; simp [textL]
    | cons c r =>
      have h1 := hc.1
      have h2 := hc.2.1.1
      omega
  | cons r R ih =>
    intro a cuts f hd ha hc hf
    obtain ⟨d, m⟩ := r
    rw [textL_cons] at hd
    have hlen : x.length - a = d + m + (2 + (textL R).length) := by
      have := congrArg List.length hd
      rw [List.length_drop, List.length_append, List.length_append, rowL_len, hxl] at this
      simpa using this
    have hp2 : x.cps.toList.drop (a + (d + m)) = [13, 10] ++ textL R := by
      rw [← List.drop_drop, hd]
      have : d + m = (rowL d m).length := (rowL_len d m).symm
      rw [this, List.drop_left]
    have hAt : At x y x.length (a + (d + m)) := by
      refine ⟨by omega, ?_⟩
      rw [subAt_eq, hp2, hyl, hy]
      simp
    have hno : ∀ k, a ≤ k → k < a + (d + m) → ¬ At x y x.length k := by
      intro k h1 h2 hA
      have h3 := hA.2
      rw [subAt_eq, hy, hyl] at h3
      have h4 := eq_of_beq h3
      have h5 := congrArg (fun l => l[0]?) h4
      simp only [List.getElem?_take_of_lt (show 0 < 2 by decide), List.getElem?_drop, Nat.add_zero] at h5
      have h6 : x.cps.toList[k]? = (x.cps.toList.drop a)[k - a]? := by rw [List.getElem?_drop]; congr 1; omega
      rw [h6, hd] at h5
      have h7 := rowL_get d m (k - a) (by omega) ([13, 10] ++ textL R)
      rw [h5] at h7
      simp at h7
      split at h7 <;> omega
    cases cuts with
    | nil =>
      have e : f = a := hc
      exact absurd hAt (hf _ (by omega))
    | cons c r =>
      obtain ⟨h1, h2, h3, h4⟩ := hc
      have hcp : c = a + (d + m) := by
        rcases Nat.lt_trichotomy c (a + (d + m)) with h | h | h
        · exact absurd h2 (hno c h1 h)
        · exact h
        · exact absurd hAt (h3 _ (by omega) h)
      subst hcp
      have hd3 : x.cps.toList.drop (a + (d + m) + y.length) = textL R := by
        rw [← List.drop_drop, hp2, hyl]; rfl
      refine ⟨?_, fun _ h => by cases h⟩
      show (strSub x a (a + (d + m))).cps.toList :: (partsFrom x y.length (a + (d + m) + y.length) r).map (·.cps.toList) = rowL d m :: (R.map (fun r => rowL r.1 r.2) ++ [[]])
      rw [(ih _ r f hd3 (by omega) h4 hf).1, strSub_toList, hd]
      congr 1
      have : a + (d + m) - a = (rowL d m).length := by rw [rowL_len]; omega
      rw [this, List.take_left]
theorem split_mail (x y : Str) (hy : y.cps.toList = [13, 10]) (R : List (Nat × Nat)) (hR : R ≠ []) (hx : x.cps.toList = textL R) : (Txt.split x y).map (·.cps.toList) = R.map (fun r => rowL r.1 r.2) ++ [[]] := by
  have hyl : y.length = 2 := by
    have : y.length = y.cps.toList.length := by rw [Array.length_toList]; rfl
    rw [this, hy]; rfl
  have hxl : x.cps.toList.length = x.length := by rw [Array.length_toList]; rfl
  obtain ⟨f, hc, hf⟩ := occ_tight x y (by omega)
  obtain ⟨h1, h2⟩ := parts_mail x y hy R 0 _ f hx (Nat.zero_le _) hc hf
  have hlen : 2 ≤ x.length := by
    rw [← hxl, hx]
    cases R with
    | nil => exact absurd rfl hR
    | cons r R => rw [textL_cons]; simp; omega
  have hk1 : Str.strKind y = 1 := by
    unfold Str.strKind
    have : y.cps.all (· < 256) = true := by
      rw [← Array.all_toList, hy]; decide
    rw [this, if_pos rfl]
  have hk2 : 1 ≤ Str.strKind x := by
    unfold Str.strKind
    split
    · exact Nat.le_refl _
    · split <;> decide
  unfold Txt.split
  rw [if_neg (by simp [hk1]; omega), if_neg (by rw [List.isEmpty_iff]; exact h2 hR), partsBetween_eq, h1]
end Mine
end
section
open PySem PySem.W PyProof.Rows
namespace Mine
def iterR (u : Int) (nss : List (List Int)) : Nat → List Row
  | 0 => rowsOf u 0 nss
  | k + 1 => (iterR u nss k).map fun r => bump (crlfRow r)
def lastR (nss : List (List Int)) (k : Nat) : List (Nat × Nat) := nss.map fun ch => (1 + ch.sum.toNat + k, ch.length)
theorem rowsOf_map (u : Int) : ∀ (nss : List (List Int)) (i : Nat), (rowsOf u i nss).map (fun r => bump (crlfRow r)) = nss.map fun ch => ((1 + ch.sum.toNat + 1, ch.length, [13, 10]) : Row)
  | [], _ => rfl
  | ns :: nss, i => by
    rw [rowsOf, List.map_cons, List.map_cons, rowsOf_map u nss (i + 1)]
    rfl
theorem iterR_succ (u : Int) (nss : List (List Int)) : ∀ k : Nat, iterR u nss (k + 1) = nss.map fun ch => ((1 + ch.sum.toNat + (k + 1), ch.length, [13, 10]) : Row)
  | 0 => rowsOf_map u nss 0
  | k + 1 => by
    rw [iterR, iterR_succ u nss k, List.map_map]
    rfl
theorem rowsOf_len (u : Int) : ∀ (nss : List (List Int)) (i : Nat), (rowsOf u i nss).length = nss.length
  | [], _ => rfl
  | _ :: nss, i => by rw [rowsOf, List.length_cons, List.length_cons, rowsOf_len u nss]
theorem iterR_len (u : Int) (nss : List (List Int)) : ∀ k : Nat, (iterR u nss k).length = nss.length
  | 0 => rowsOf_len u nss 0
  | k + 1 => by rw [iterR, List.length_map, iterR_len u nss k]
theorem rowsOf_ok (u : Int) : ∀ (nss : List (List Int)) (i : Nat), (∀ ch ∈ nss, ch.length ≤ 4 ∧ 0 ≤ ch.sum ∧ ch.sum ≤ 20) → ∀ r ∈ rowsOf u i nss, RowOk r ∧ r.1 ≤ 21 ∧ r.2.1 ≤ 4
  | [], _, _, r, h => by cases h
  | ns :: nss, i, hb, r, h => by
    rw [rowsOf] at h
    rcases List.mem_cons.mp h with rfl | h
    · have := hb ns (.head _)
      refine ⟨⟨by dsimp only; omega, ?_⟩, by dsimp only; omega, this.1⟩
      unfold endL
      dsimp only
      split
      · exact .inl rfl
      · split
        · exact .inr (.inl rfl)
        · exact .inr (.inr rfl)
    · exact rowsOf_ok u nss (i + 1) (fun ch hc => hb ch (.tail _ hc)) r h
theorem iterR_ok (u : Int) (nss : List (List Int)) (hb : ∀ ch ∈ nss, ch.length ≤ 4 ∧ 0 ≤ ch.sum ∧ ch.sum ≤ 20) : ∀ (k : Nat), ∀ r ∈ iterR u nss k, RowOk r ∧ r.1 ≤ 21 + k ∧ r.2.1 ≤ 4
  | 0 => rowsOf_ok u nss 0 hb
  | k + 1 => fun r h => by
    rw [iterR_succ] at h
    obtain ⟨ch, hc, rfl⟩ := List.mem_map.mp h
    have := hb ch hc
    exact ⟨⟨by dsimp only; omega, .inr (.inr rfl)⟩, by dsimp only; omega, this.1⟩
theorem mailL_len_le : ∀ R : List Row, (∀ r ∈ R, RowOk r ∧ r.1 ≤ 40 ∧ r.2.1 ≤ 4) → (mailL R).length ≤ 50 * R.length
  | [], _ => Nat.le_refl _
  | r :: R, h => by
    have h1 := h r (.head _)
    have h2 := mailL_len_le R fun q hq => h q (.tail _ hq)
    have he : r.2.2.length ≤ 2 := by
      rcases h1.1.2 with e | e | e <;> rw [e] <;> decide
    rw [mailL_cons, List.length_append, oneRow_len, List.length_cons]
    omega
theorem mailL_last (nss : List (List Int)) (k : Nat) : mailL (nss.map fun ch => ((1 + ch.sum.toNat + k, ch.length, [13, 10]) : Row)) = textL (lastR nss k) := by
  unfold mailL textL lastR
  rw [List.flatMap_map, List.flatMap_map]
  rfl
/-- the readings -/
def reads (nss : List (List Int)) (k : Nat) : List (List Int) := nss.map fun ch => rdij (1 + ch.sum.toNat + k) ch.length
theorem reads_sums (ps : List Int) (k : Nat) (hb : ∀ ch ∈ chs ps, ch.length ≤ 4 ∧ 0 ≤ ch.sum ∧ ch.sum ≤ 20) : (reads (chs ps) k).foldl s3 (0, 0, 0) = fF (k : Int) ps := by
  unfold reads fF
  rw [List.foldl_map]
  have : ∀ (l : List (List Int)) (σ : Int × Int × Int), (∀ ch ∈ l, ch.length ≤ 4 ∧ 0 ≤ ch.sum ∧ ch.sum ≤ 20) → l.foldl (fun x y => s3 x (rdij (1 + y.sum.toNat + k) y.length)) σ = l.foldl (fun σ ch => f3 σ ((1 + (k : Int) + ch.sum) % 3).toNat (ch.length % 2)) σ := by
    intro l
    induction l with
    | nil => intro σ _; rfl
    | cons ch l ih =>
      intro σ h
      rw [List.foldl_cons, List.foldl_cons, s3_rdij]
      have h1 := h ch (.head _)
      have e : (1 + ch.sum.toNat + k) % 3 = ((1 + (k : Int) + ch.sum) % 3).toNat := by omega
      rw [e]
      exact ih _ fun c hc => h c (.tail _ hc)
  exact this _ _ hb
theorem reads_count (nss : List (List Int)) (k : Nat) : ∀ ns ∈ reads nss k, ns.count 23 ≤ 2 := by
  intro ns h
  obtain ⟨ch, _, rfl⟩ := List.mem_map.mp h
  rw [count_23]; omega
theorem row_rdij (t : Int) (k : Nat) (ht : t = (k : Int)) (ch : List Int) (h : ch.length ≤ 4 ∧ 0 ≤ ch.sum ∧ ch.sum ≤ 20) :
    List.replicate ((1 + t + ch.sum).fdiv 3).toNat (52 : Int) ++ List.replicate ((1 + t + ch.sum).fmod 3).toNat 23 ++ List.replicate ((ch.length : Int).fdiv 2).toNat 27 ++ List.replicate ((ch.length : Int).fmod 2).toNat 22 = rdij (1 + ch.sum.toNat + k) ch.length := by
  subst ht
  have e1 : ((1 + (k : Int) + ch.sum).fdiv 3).toNat = (1 + ch.sum.toNat + k) / 3 := by
    rw [Int.fdiv_eq_ediv_of_nonneg _ (by decide)]; omega
  have e2 : ((1 + (k : Int) + ch.sum).fmod 3).toNat = (1 + ch.sum.toNat + k) % 3 := by
    rw [Int.fmod_eq_emod_of_nonneg _ (by decide)]; omega
  have e3 : ((ch.length : Int).fdiv 2).toNat = ch.length / 2 := by
    rw [Int.fdiv_eq_ediv_of_nonneg _ (by decide)]; omega
  have e4 : ((ch.length : Int).fmod 2).toNat = ch.length % 2 := by
    rw [Int.fmod_eq_emod_of_nonneg _ (by decide)]; omega
  rw [e1, e2, e3, e4]
  rfl
end Mine
end
section
open PySem PySem.W PyProof.Rows PySem.Calls PyProof.Rows.LCg
namespace Mine
def RefsIn (P : List Value → List Int → Prop) (nw : List (Addr × Obj)) : List Value → List (List Int) → Prop
  | [], [] => True
  | v :: vs, ns :: nss => (∃ D o n ws, v = .ref D ∧ (D, o) ∈ nw ∧ o.cls = .type "list" ∧ o.data = .seq (List.toArray ws) n ∧ P ws ns) ∧ RefsIn P nw vs nss
  | _, _ => False
theorem RefsIn.mono {P : List Value → List Int → Prop} {nw nw' : List (Addr × Obj)} (s : ∀ p ∈ nw, p ∈ nw') : ∀ {vs : List Value} {nss : List (List Int)}, RefsIn P nw vs nss → RefsIn P nw' vs nss
  | [], [], _ => trivial
  | _ :: _, _ :: _, ⟨⟨D, o, n, ws, e, hm, r⟩, x⟩ => ⟨⟨D, o, n, ws, e, s _ hm, r⟩, RefsIn.mono s x⟩
  | [], _ :: _, x => x.elim
  | _ :: _, [], x => x.elim
theorem RefsIn.snoc {P : List Value → List Int → Prop} {nw : List (Addr × Obj)} {D : Addr} {o : Obj} {n : Nat} {ws : List Value} {ns : List Int} (hm : (D, o) ∈ nw) (hc : o.cls = .type "list") (hd : o.data = .seq ws.toArray n) (hp : P ws ns) : ∀ {vs : List Value} {nss : List (List Int)}, RefsIn P nw vs nss → RefsIn P nw (vs ++ [.ref D]) (nss ++ [ns])
  | [], [], _ => ⟨⟨D, o, n, ws, rfl, hm, hc, hd, hp⟩, trivial⟩
  | _ :: _, _ :: _, x => ⟨x.1, RefsIn.snoc hm hc hd hp x.2⟩
  | [], _ :: _, x => x.elim
  | _ :: _, [], x => x.elim
theorem RefsIn.len {P : List Value → List Int → Prop} {nw : List (Addr × Obj)} : ∀ {vs : List Value} {nss : List (List Int)}, RefsIn P nw vs nss → vs.length = nss.length
  | [], [], _ => rfl
  | _ :: _, _ :: _, x => by rw [List.length_cons, List.length_cons, RefsIn.len x.2]
  | [], _ :: _, x => x.elim
  | _ :: _, [], x => x.elim
theorem RefsIn.lists {P : List Value → List Int → Prop} {nw : List (Addr × Obj)} {h : Heap} (hP : ∀ ws ns, P ws ns → IntsAre ws ns) (hn : ∀ p ∈ nw, h.get? p.1 = some p.2) : ∀ {vs : List Value} {nss : List (List Int)}, RefsIn P nw vs nss → ListsAre h vs nss
  | [], [], _ => trivial
  | _ :: _, _ :: _, ⟨⟨D, o, n, ws, e, hm, hc, hd, hp⟩, x⟩ => ⟨⟨D, ws, e, ⟨o, hn _ hm, hc, n, hd⟩, hP _ _ hp⟩, RefsIn.lists hP hn x⟩
  | [], _ :: _, x => x.elim
  | _ :: _, [], x => x.elim
theorem RefsIn.rows {P : List Value → List Int → Prop} {nw : List (Addr × Obj)} {h : Heap} (hP : ∀ ws ns, P ws ns → IntsAre ws ns ∧ Small ws ∧ ns.length ≤ 1000) (hn : ∀ p ∈ nw, h.get? p.1 = some p.2) : ∀ {vs : List Value} {nss : List (List Int)}, RefsIn P nw vs nss → RowsAre h vs nss
  | [], [], _ => trivial
  | _ :: _, _ :: _, ⟨⟨D, o, n, ws, e, hm, hc, hd, hp⟩, x⟩ => ⟨⟨D, ws, e, ⟨o, hn _ hm, hc, n, hd⟩, hP _ _ hp⟩, RefsIn.rows hP hn x⟩
  | [], _ :: _, x => x.elim
  | _ :: _, [], x => x.elim
theorem pick_m1 (items : Array Value) (h : 1 ≤ items.size) : slicePick items none (some (-1)) none = (items.toList.take (items.size - 1)).toArray := by
  have e : sliceBounds none (some (-1)) none items.size = sliceBounds none (some ((items.size - 1 : Nat) : Int)) none items.size := by
    simp only [sliceBounds, Option.getD]
    congr 1
    congr 1
    simp
    omega
  have := slicePick_upto' items (items.size - 1)
  unfold slicePick at this ⊢
  rw [e]
  exact this
theorem split_last {α β : Type} (f : α → β) : ∀ {l : List α} {r : List β} {b : β}, l.map f = r ++ [b] → ∃ l' a, l = l' ++ [a] ∧ l'.map f = r ∧ f a = b := by
  intro l r b h
  obtain ⟨l1, l2, e, h1, h2⟩ := List.map_eq_append_iff.mp h
  match l2, h2 with
  | [a], h2 => exact ⟨l1, a, e, h1, by simpa using h2⟩
theorem pick_last (l : List (Str × Tok)) (x : Str × Tok) : slicePick (strValues (l ++ [x])).toArray none (some (-1)) none = (strValues l).toArray := by
  rw [pick_m1 _ (by simp [strValues])]
  simp [strValues]
theorem reads_last (nss : List (List Int)) (k : Nat) : reads nss k = (lastR nss k).map fun r => rdij r.1 r.2 := by
  unfold reads lastR
  rw [List.map_map]; rfl
theorem rdij_len (D M : Nat) : (rdij D M).length ≤ D + M := by
  simp only [rdij, List.length_append, List.length_replicate]; omega
theorem lastR_mem {nss : List (List Int)} {k : Nat} (hb : ∀ ch ∈ nss, ch.length ≤ 4 ∧ 0 ≤ ch.sum ∧ ch.sum ≤ 20) {r : Nat × Nat} (h : r ∈ lastR nss k) : r.1 ≤ 21 + k ∧ r.2 ≤ 4 := by
  obtain ⟨ch, hc, rfl⟩ := List.mem_map.mp h
  have := hb ch hc
  exact ⟨by dsimp only; omega, this.1⟩
def RP (ws : List Value) (ns : List Int) : Prop := IntsAre ws ns ∧ Small ws ∧ ns.length ≤ 1000
theorem str_get {l : List (Str × Tok)} {i : Nat} {v : Value} (h : (strValues l).toArray[i]? = some v) : ∃ x t, l[i]? = some (x, t) ∧ v = .str x t := by
  have h2 : (strValues l)[i]? = some v := by simpa using h
  rw [strValues, List.getElem?_map] at h2
  cases q : l[i]? with
  | none => rw [q] at h2; cases h2
  | some p =>
    rw [q] at h2
    exact ⟨p.1, p.2, rfl, (Option.some.inj h2).symm⟩
end Mine
end
section
open PySem PySem.W PyProof.Rows PySem.Calls PySem.Spec PySem.SeqAt PyProof.V
namespace Mine
def dl (nss : List (List Int)) : List PyData := nss.map fun ns => PyData.list (ns.map PyData.int)
theorem readsAll_lists {h : Heap} : ∀ {vs : List Value} {nss : List (List Int)}, ListsAre h vs nss → ∃ as, ReadsAll h vs (dl nss) as
  | [], [], _ => ⟨_, .nil⟩
  | _ :: _, ns :: _, ⟨⟨a, ws, e, hl, hi⟩, r⟩ => by
    subst e
    obtain ⟨as, ha⟩ := readsAll_lists r
    exact ⟨_, ReadsAll.cons (reads_of_ints hl hi) ha⟩
  | [], _ :: _, x => x.elim
  | _ :: _, [], x => x.elim
theorem dl_can : ∀ nss : List (List Int), PyData.canLayAll0 (dl nss) = true
  | [] => by simp [dl, PyData.canLayAll0]
  | ns :: r => by
    have := dl_can r
    simp only [dl, List.map_cons] at this ⊢
    simp [PyData.canLayAll0, PyData.canLay0, canLayAll0_ints, this]
theorem dl_depth : ∀ nss : List (List Int), PyData.depthAll (dl nss) ≤ 3
  | [] => by simp [dl, PyData.depthAll]
  | ns :: r => by
    have h1 := dl_depth r
    have h2 := PySem.W.depthAll_ints ns
    simp only [dl, List.map_cons] at h1 ⊢
    simp only [PyData.depthAll, PyData.depth]
    omega
theorem dl_shaped (nss : List (List Int)) : shaped (.list (dl nss)) = true := by
  have h1 := dl_depth nss
  have h2 : PyData.depth (.list (dl nss)) ≤ 64 := by simp only [PyData.depth]; omega
  show (PyData.canLay0 (.list (dl nss)) && decide (PyData.depth (.list (dl nss)) ≤ 64)) = true
  rw [Bool.and_eq_true]
  exact ⟨by simp only [PyData.canLay0]; exact dl_can nss, decide_eq_true h2⟩
theorem dl_eqv : ∀ nss : List (List Int), PyData.eqvAll (dl nss) (dl nss) = true
  | [] => by simp [dl, PyData.eqvAll]
  | ns :: r => by
    have := dl_eqv r
    simp only [dl, List.map_cons] at this ⊢
    simp only [PyData.eqvAll, PyData.eqv, this, Bool.and_true]
    rw [ked_eqvAll]; simp
section
variable {prog : Program} {w : World} {A : Around} {E : Value → Shared → Prop} {s : Shared}
theorem ne_lists {a b : Addr} {vs us : List Value} {nss : List (List Int)} {Q : Value → Shared → Prop} (ha : s.heap.IsList a vs.toArray) (hv : ListsAre s.heap vs nss) (hb : s.heap.IsList b us.toArray) (hu : ListsAre s.heap us nss) (room : A.units + 64 < cLine) (h : Q (.bool false) s) :
    wpAny (model prog w) A (compareOp .NotEq (.ref a) (.ref b)) Q E s := by
  obtain ⟨as, r1⟩ := readsAll_lists hv
  obtain ⟨bs, r2⟩ := readsAll_lists hu
  obtain ⟨o, ho, hc, n, hd⟩ := ha
  obtain ⟨o2, ho2, hc2, n2, hd2⟩ := hb
  refine ne_dataH (Reads.list ho hc hd r1) (Reads.list ho2 hc2 hd2 r2) (dl_shaped nss) (dl_shaped nss) room ?_
  simp only [PyData.eqv, dl_eqv]
  exact h
end
end Mine
end
section
open PySem PySem.W PyProof.Rows PySem.Calls PySem.Spec
namespace Mine
section
variable {prog : Program} {w : World} {dp un : Nat} {gd : Option (List Code)} {outer : List Env} {s : Shared} {K : Frag} {p : Program} {loose : List Str} {mean : ExcName → Option Value} {mg mb : Str → Option Value} {Q E : Value → Shared → Prop}
  {name qual : Str} {params : Arguments} {body : List Stmt} {scope : Scope} {dV kV doc pm cdv ct oc : Value} {an od : Option Addr} {osl : Array (Option Value)} {f : Addr} {args : Args} {binds : List (Str × Value)}
theorem enter_cellsT (X : K.In s.heap) (T : Top p loose mean mg mb s.heap)
    (ho : K.lookup f = some ⟨oc, od, .func (fnOf name qual params body scope dV kV doc pm an cdv ct), osl⟩) (hcd : codeIn K cdv qual = true) (hroom : dp < recursionLimit)
    (hbind : BindsTo s (fnOf name qual params body scope dV kV doc pm an cdv ct) args binds) (hkind : (binds.all fun y => scope.names.lookup y.1 == some .local || scope.names.lookup y.1 == some .cell) = true)
    (hnd : ((cellsFrom 0 scope.names []).map (·.1)).Nodup)
    (h : ∀ L h₁ tk cells, L = s.heap.objs.size → s.toks ≤ tk → Fr s.heap L h₁ (bindL (envOfC qual scope L f cdv).kindOf binds fun _ => none) → News s.heap L h₁ cells →
      CellsAre (bindC (envOfC qual scope L f cdv).kindOf binds fun _ => none) (cellsFrom (L + 1) scope.names []) cells →
      wpAny (model prog w) ((Ar dp un gd outer).deeper (envOfC qual scope L f cdv)) (execs body (envOfC qual scope L f cdv)) (fun fl s' => Lv s.heap L Q (match fl with | .ret v => v | _ => .none) s')
        (fun e s' => wpAny (model prog w) ((Ar dp un gd outer).deeper (envOfC qual scope L f cdv)) (leaving (envOfC qual scope L f cdv) e) (fun _ s'' => E e s'') (fun e' s'' => E e' s'') s')
        { s with heap := h₁, toks := tk })
    (hco : scope.isCoroutine = false) (hgen : scope.isGenerator = false) (hk : scope.kind = .function) :
    codeAny (model prog w) (Ar dp un gd outer) (.call (.ref f) args) (fun r s' => match r with | .ok (.ret v) => Q v s' | .ok _ => False | .error e => E e s') s := by
  refine codeAny_call_function (fd := fnOf name qual params body scope dV kV doc pm an cdv ct) (body := body) hroom (X _ _ ho) rfl hco hgen rfl (codeRec_of X hcd) (hbind _ _ _ _ ?_)
  refine wpAny_toks (wpAny_newFunctionEnv_cells hk (kindsX hkind _) fun env' he s' x hle => ?_)
  subst he
  refine ⟨T.nolimit.keeps x.toInCall.keep, codeAny_func ?_⟩
  obtain ⟨h₁, tk, rfl, _⟩ := x.done
  have hk₁ := x.toInCall.keep
  obtain ⟨cells, NC, Y⟩ := Cl.news (h₀ := s.heap) (Nat.le_refl _) fun n c hm => ⟨x.cell n c (lookup_of_mem_nodup (cellsFrom_names scope.names 0 (s.heap.objs.size + 1) [] [] rfl ▸ hnd) hm), x.above n c hm⟩
  exact wpAny_mono (h s.heap.objs.size h₁ tk cells rfl hle ⟨x.toInCall.ns, hk₁, Nat.le_refl _⟩ NC Y) (fun fl s' hl => let ⟨_, _, q⟩ := hl; q) fun _ _ y => y
end
end Mine
end
section
open PySem PySem.W PyProof.Rows PySem.Calls PyProof.Rows.LCg
namespace Mine
local macro_rules | `(tactic| walk_at "mine Lw 0") => `(tactic| fail)
local macro_rules | `(tactic| walk_at "mine Lw 1") => `(tactic| fail)
local macro_rules | `(tactic| walk_at "mine Lw 2") => `(tactic| fail)
local macro_rules | `(tactic| walk_at "mine Lw 3") => `(tactic| fail)
local macro_rules | `(tactic| walk_at "mine Lw 4") => `(tactic| fail)
local macro_rules | `(tactic| walk_at "mine Lw 5") => `(tactic| fail)
local macro_rules | `(tactic| walk_at "mine Lw 6") => `(tactic| fail)
local macro_rules | `(tactic| walk_at "mine Lw 7") => `(tactic| fail)
local macro_rules | `(tactic| walk_at "mine Lw 8") => `(tactic| fail)
local macro_rules | `(tactic| walk_at "mine Lw 9") => `(tactic| fail)
local macro_rules | `(tactic| walk_at "mine Lw 10") => `(tactic| fail)
local macro_rules | `(tactic| walk_at "mine Lw 11") => `(tactic| fail)
local macro_rules | `(tactic| walk_at "mine Lw 12") => `(tactic| fail)
local macro_rules | `(tactic| walk_at "mine Lw 13") => `(tactic| fail)
local macro_rules | `(tactic| walk_at "mine Lw 14") => `(tactic| fail)
local macro_rules | `(tactic| walk_at "mine Lw 15") => `(tactic| fail)
local macro_rules | `(tactic| walk_at "mine Lw 16") => `(tactic| fail)
local macro_rules | `(tactic| walk_at "mine Lw 17") => `(tactic| fail)
local macro_rules | `(tactic| walk_at "mine Lw 18") => `(tactic| fail)
local macro_rules | `(tactic| walk_at "mine Lw 19") => `(tactic| fail)
local macro_rules | `(tactic| walk_at "mine Lw 20") => `(tactic| fail)
local macro_rules | `(tactic| walk_at "mine Lw 21") => `(tactic| fail)
local macro_rules | `(tactic| walk_at "mine Lw 22") => `(tactic| fail)
local macro_rules | `(tactic| walk_at "mine Lw 23") => `(tactic| fail)
local macro_rules | `(tactic| walk_at "mine Lw 24") => `(tactic| fail)
local macro_rules | `(tactic| walk_at "mine Lw 25") => `(tactic| fail)
local macro_rules | `(tactic| walk_at "mine Lw 26") => `(tactic| fail)
local macro_rules | `(tactic| walk_at "mine Lw 27") => `(tactic| fail)
local macro_rules | `(tactic| walk_at "mine Lw 28") => `(tactic| fail)
theorem fillK_L (P : Params) : hd.heap_1 P = hd.heap_1 P ∧ PySem.Challenge.rw_to0014_01 = PySem.Challenge.rw_to0014_01 := by
  k_fill
  exact ⟨rfl, rfl⟩
local macro_rules | `(tactic| ktr_enter) => `(tactic| (refine' enter_cellsT ?k3 ?k5 ?k6 ?k7 ?k8 ?k9 ?kB ?kD ?_ ?c2 ?c3 ?c4; (case k3 => k_asm); (case k5 => k_asm); (case k6 => k_is); (case k7 => k_is); (case k8 => omega); (case k9 => exact BindsTo.of_eq rfl); (case kB => exact rfl); (case kD => decide +kernel); (case c2 => exact rfl); (case c3 => exact rfl); (case c4 => exact rfl); k_whole; intro L' h' tk' cells' hL' hT' F' N' Y'; k_cells Y'; (try simp only [List.cons_append, List.nil_append] at N'); (try dsimp only); (try k_fold)))
theorem News.put {h₀ h h' : Heap} {L r : Addr} {m : Str → Option Value} {o : Obj} {news : List (Addr × Obj)} (F : Fr h₀ L h m) (N : News h₀ L h news) (keep : ∀ b o, h.get? b = some o → h'.get? b = some o) (hr0 : h.get? r = none) (hr : h'.get? r = some o) : News h₀ L h' ((r, o) :: news) := fun p hp => by
  rcases List.mem_cons.mp hp with rfl | hp
  · refine ⟨hr, ?_, ?_⟩
    · intro q
      obtain ⟨oL, e, _⟩ := LCg.ns_obj F.ns
      dsimp only at q
      rw [q, e] at hr0; cases hr0
    · dsimp only
      cases q : h₀.get? r with
      | none => rfl
      | some o' => rw [F.keep _ _ q] at hr0; cases hr0
  · exact ⟨keep _ _ (N p hp).1, (N p hp).2⟩
theorem News.ne {h₀ h : Heap} {L r a : Addr} {o : Obj} {news : List (Addr × Obj)} (N : News h₀ L h news) (hm : (a, o) ∈ news) (hr0 : h.get? r = none) : @Ne Nat a r := fun q => by
  have := (N _ hm).1
  dsimp only at this
  rw [q, hr0] at this; cases this
theorem chosen_mem (k : Int) : ∀ (l : List Int) (j : Nat) (z : Int), z ∈ chosenL k j l → z ∈ l
  | [], _, _, h => h
  | a :: l, j, z, h => by
    rw [chosenL] at h
    split at h
    · rcases List.mem_cons.mp h with rfl | h
      · exact .head _
      · exact .tail _ (chosen_mem k l _ z h)
    · exact .tail _ (chosen_mem k l _ z h)
theorem sum_bound : ∀ l : List Int, (∀ z ∈ l, 1 ≤ z ∧ z ≤ 5) → 0 ≤ l.sum ∧ l.sum ≤ 5 * l.length
  | [], _ => ⟨Int.le_refl _, Int.le_refl _⟩
  | a :: l, h => by
    have h1 := h a (.head _)
    have h2 := sum_bound l fun z hz => h z (.tail _ hz)
    simp only [List.sum_cons, List.length_cons]
    push_cast
    omega
theorem chs_ok {ps : List Int} (hl : ps.length ≤ 4) (hp : ∀ z ∈ ps, 1 ≤ z ∧ z ≤ 5) : (chs ps).length ≤ 16 ∧ (∀ ch ∈ chs ps, ch.length ≤ 4 ∧ 0 ≤ ch.sum ∧ ch.sum ≤ 20) := by
  constructor
  · rw [chs, List.length_map, List.length_range]
    exact Nat.pow_le_pow_right (by decide) hl
  · intro ch hch
    obtain ⟨j, _, rfl⟩ := List.mem_map.mp hch
    have h1 := chosenL_len (j : Int) ps 0
    have h2 := sum_bound _ fun z hz => hp z (chosen_mem (j : Int) ps 0 z hz)
    omega
theorem off1_fresh {h : Heap} {a : Addr} {o : Obj} (ha : h.get? a = some o) : ∀ {l : List (Addr × Obj)}, (∀ p ∈ l, h.get? p.1 = none) → Off1 a l
  | [], _ => trivial
  | p :: l, x => ⟨(fun q => by
      have := x p (.head _)
      rw [q, ha] at this; cases this), off1_fresh ha fun r hr => x r (.tail _ hr)⟩
theorem News.putAll {h₀ h h' : Heap} {L : Addr} {m : Str → Option Value} {news inner : List (Addr × Obj)} (F : Fr h₀ L h m) (N : News h₀ L h news) (keep : ∀ b o, h.get? b = some o → h'.get? b = some o) (x : ∀ p ∈ inner, h'.get? p.1 = some p.2 ∧ h.get? p.1 = none) : News h₀ L h' inner := fun p hp =>
  Mine.News.put F N keep (x p hp).2 (x p hp).1 _ (.head _)
section

local macro_rules | `(tactic| walk_at "call ref") => `(tactic| (with_reducible show wpAny _ _ (call (Value.ref _) _) _ _ _; refine Stp.out ?_))
local macro_rules | `(tactic| walk_at "exec Assign cons ListComp") => `(tactic| (with_reducible show wpAny _ _ (exec _ _) _ _ _; refine Stp.out ?_))
local macro_rules | `(tactic| walk_at "eval ListComp") => `(tactic| (with_reducible show wpAny _ _ (eval _ _) _ _ _; refine Stp.out ?_))
local macro_rules | `(tactic| walk_at "call builtin:str.split") => `(tactic| (with_reducible show wpAny _ _ (call (Value.builtin "str.split") _) _ _ _; refine Stp.out ?_))
local macro_rules | `(tactic| walk_at "call builtin:sum") => `(tactic| (with_reducible show wpAny _ _ (call (Value.builtin "sum") _) _ _ _; refine Stp.out ?_))
local macro_rules | `(tactic| walk_at "exec For Name Call cons nil") => `(tactic| (with_reducible show wpAny _ _ (exec _ _) _ _ _; refine Stp.out ?_))
local macro_rules | `(tactic| k_all) => `(tactic| exact off1_ne (by with_reducible assumption))
local macro_rules | `(tactic| walk_at "execs cons") => `(tactic| ((with_reducible refine wpAny_execs_cons ?_); try dsimp only))
local macro_rules | `(tactic| walk_at "execs nil") => `(tactic| ((with_reducible refine wpAny_execs_nil ?_); try dsimp only))
set_option maxRecDepth 100000 in
set_option maxHeartbeats 8000000 in
theorem law_spec {w : World} {loose : List Str} {mean : ExcName → Option Value} {mg mb : Str → Option Value} (dp un : Nat) (gd : Option (List Code)) (outer : List Env) (s : Shared) (Q E : Value → Shared → Prop)
   (X : (hd.heap_1 w.params).In s.heap) (T : Top vw loose mean mg mb s.heap) (hd : dp + 30 < recursionLimit) (hu : un + 300 < cLine)
   (c : Addr) (vs : List Value) (ns : List Int) (hc : s.heap.IsList c vs.toArray) (hv : IntsAre vs ns) (hn : ns.length ≤ 63) (hbare : AllBare s.gens) (hT : 600 ≤ s.toks)
   (hret : ∀ (h' : Heap) (tk' : Nat) (G' : Array GenState), (∀ b o, s.heap.get? b = some o → h'.get? b = some o) → AllBare G' → Q (.bool true) { s with gens := G', heap := h', toks := tk' }) :
   wpAny (model PySem.Challenge.rw_to0014_01.row.prog w) (Ar dp un gd outer) (call (.ref 130) [.ref c]) Q E s := by
  w_top off
  refine wpAny_call ?_
  k_dflt ktr_enter
  k_steps
  rename Fr _ _ _ _ => kF
  rename News _ _ _ _ => kN
  rename s.toks ≤ _ => hT0
  rename_i L' _ _ _ oc hcd0
  refine Stp.mk (wpAny_toks (numbers_spec (dp + 1) (un + 3) gd _ _ _ _ (fun a o e => kF.keep _ _ (X a o e)) (T.keeps kF.keep) (by omega) (by omega) c vs ns (hc.at fun o e => kF.keep _ _ e) hv hn fun r1 vr1 h1 tk1 a1 a2 a3 a4 b1 b2 b3 b4 keep1 hr0 hr1 hv1 hle1 => ?_))
  obtain ⟨n1, hr1⟩ := hr1
  have kN1 := Mine.News.put kF kN keep1 hr0 hr1
  have ne1 : @Ne Nat (L' + 1) r1 := Mine.News.ne kN (.head _) hr0
  have kF1 := kF.keeps keep1
  have hT1 : 600 ≤ tk1 := Nat.le_trans (Nat.le_trans hT hT0) hle1
  clear kF kN keep1 hr0 hr1 hle1
  k_steps
  rename Fr _ _ _ _ => kF
  rename News _ _ _ _ => kN
  have hl1 : Heap.IsList _ r1 vr1.toArray := ⟨_, (kN _ (.head _)).1, rfl, _, rfl⟩
  refine Stp.mk (wpAny_toks (pieces_spec (dp + 1) (un + 3) gd _ _ _ _ (fun a o e => kF.keep _ _ (X a o e)) (T.keeps kF.keep) (by omega) (by omega) r1 vr1 [a1, a2, a3, a4] hl1 hv1 rfl (by
    intro a ha
    simp only [List.mem_cons, List.not_mem_nil, or_false] at ha
    rcases ha with rfl | rfl | rfl | rfl <;> assumption) hbare fun tt r2 r3 w2 w3 n2 n3 nt ps h2 tk2 G2 ht0 hr20 hr30 e12 e13 e23 htt hr2 hr3 hw2 hw3 hpl hpb keep2 hb2 hle2 => ?_))
  have kN1 := Mine.News.put kF kN keep2 hr20 hr2
  have kN2 : News s.heap L' h2 ((r3, listOf w3.toArray n3) :: (r2, listOf w2.toArray n2) :: (r1, listOf vr1.toArray n1) :: (L' + 1, oc) :: []) := fun p hp => by
    rcases List.mem_cons.mp hp with rfl | hp
    · exact Mine.News.put kF kN keep2 hr30 hr3 _ (.head _)
    · exact kN1 p hp
  have kN3 : News s.heap L' h2 ((tt, { cls := .type "tuple", data := .seq #[.ref r2, .ref r3] nt }) :: (r3, listOf w3.toArray n3) :: (r2, listOf w2.toArray n2) :: (r1, listOf vr1.toArray n1) :: (L' + 1, oc) :: []) := fun p hp => by
    rcases List.mem_cons.mp hp with rfl | hp
    · exact Mine.News.put kF kN keep2 ht0 htt _ (.head _)
    · exact kN2 p hp
  have ne2 : @Ne Nat (L' + 1) r2 := Mine.News.ne kN (.tail _ (.head _)) hr20
  have ne3 : @Ne Nat (L' + 1) r3 := Mine.News.ne kN (.tail _ (.head _)) hr30
  have ne4 : @Ne Nat (L' + 1) tt := Mine.News.ne kN (.tail _ (.head _)) ht0
  have kF1 := kF.keeps keep2
  have hT2 : 600 ≤ tk2 := Nat.le_trans (Nat.le_trans hT1 (Nat.le_succ _)) hle2
  have hplen : ps.length ≤ 4 := by omega
  have hw2l := hw2.length
  have hw3l := hw3.length
  clear kF kN kN1 kN2 keep2 ht0 hr20 hr30 htt hr2 hr3 hle2 hl1
  k_steps
  rename Fr _ _ _ _ => kF
  rename News _ _ _ _ => kN
  refine Stp.mk (wpAny_toks ?_)
  refine sumK rfl kF kN ⟨_, (kN _ (.tail _ (.tail _ (.tail _ (.head _))))).1, rfl, _, rfl⟩ hv1 fun h3 tk3 t3 kF3 kN3 hle3 => ?_
  have hT3 : 600 ≤ tk3 := Nat.le_trans (Nat.le_trans hT2 (by dsimp only; omega)) hle3
  clear kF kN hle3
  simp only [List.sum_cons, List.sum_nil]
  have hS0 : 0 ≤ a1 + (a2 + (a3 + (a4 + 0))) ∧ a1 + (a2 + (a3 + (a4 + 0))) < 4000000 := by omega
  generalize a1 + (a2 + (a3 + (a4 + 0))) = total at hS0 ⊢
  k_steps
  rename Fr _ _ _ _ => kF
  rename News _ _ _ _ => kN
  refine Stp.mk (wpAny_toks (choices_spec (dp + 1) (un + 3) gd _ _ _ _ (fun a o e => kF.keep _ _ (X a o e)) (T.keeps kF.keep) (by omega) (by omega) r2 w2 ps ⟨_, (kN _ (.tail _ (.tail _ (.head _)))).1, rfl, _, rfl⟩ hw2 hplen fun r4 refs h4 tk4 hr40 keep4 hl4 hls4 hle4 => ?_))
  obtain ⟨inner, hinn, hfr⟩ := hls4
  obtain ⟨o4, ho4, hc4, n4, hd4⟩ := id hl4
  have oCell : Off1 (L' + 1) inner := off1_fresh (kN _ (.tail _ (.tail _ (.tail _ (.tail _ (.head _)))))).1 fun p hp => (hfr p hp).2
  have kNi := Mine.News.putAll kF kN keep4 hfr
  have kN4 : News s.heap L' h4 ((r4, o4) :: (tt, { cls := .type "tuple", data := .seq #[.ref r2, .ref r3] nt }) :: (r3, listOf w3.toArray n3) :: (r2, listOf w2.toArray n2) :: (r1, listOf vr1.toArray n1) :: (L' + 1, oc) :: inner) := fun p hp => by
    rcases List.mem_cons.mp hp with rfl | hp
    · exact Mine.News.put kF kN keep4 hr40 ho4 _ (.head _)
    · by_cases hi : p ∈ inner
      · exact kNi p hi
      · refine kN.grown keep4 p ?_
        simp only [List.mem_cons, hi, or_false] at hp
        simpa using hp
  have ne5 : @Ne Nat (L' + 1) r4 := Mine.News.ne kN (.tail _ (.tail _ (.tail _ (.tail _ (.head _))))) hr40
  have kF4 := kF.keeps keep4
  have hT4 : 600 ≤ tk4 := Nat.le_trans (Nat.le_trans hT3 (by dsimp only; omega)) hle4
  clear kF kN hr40 hle4 kNi hfr
  k_steps
  rename Fr _ _ _ _ => kF
  rename News _ _ _ _ => kN
  rename_i oc2 hcd2
  obtain ⟨hc16, hcb⟩ := chs_ok hplen hpb
  refine Stp.mk (wpAny_toks (mail_spec (dp + 1) (un + 3) gd _ _ _ _ (fun a o e => kF.keep _ _ (X a o e)) (T.keeps kF.keep) (by omega) (by omega) r4 refs (chs ps) (total.fdiv 9) _ ?_ ?_ hc16 ?_ hcb fun z tz h5 tk5 hz keep5 hle5 => ?_))
  · exact ⟨_, (kN _ (.tail _ (.head _))).1, hc4, n4, hd4⟩
  · exact hinn.lists fun p hp => (kN p (.tail _ (.tail _ (.tail _ (.tail _ (.tail _ (.tail _ (.tail _ hp)))))))).1
  · have := Int.fdiv_eq_ediv_of_nonneg total (show (0 : Int) ≤ 9 by decide)
    rw [this]
    omega
  have kN5 := kN.grown keep5
  have kF5 := kF.keeps keep5
  have hT5 : 600 ≤ tk5 := Nat.le_trans (Nat.le_trans hT4 (by dsimp only; omega)) hle5
  clear kF kN hle5 keep4 keep5 hl4 ho4
  k_steps
  rename Fr _ _ _ _ => kF
  rename News _ _ _ _ => kN
  rename_i DT _ _ _ _ _ _ _
  obtain ⟨nt2, kN⟩ : ∃ nt2, News s.heap L' _ ((DT, { cls := .type "tuple", data := .seq #[.int total t3, .ref r4] nt2 }) :: (r4, o4) :: (tt, { cls := .type "tuple", data := .seq #[.ref r2, .ref r3] nt }) :: (r3, listOf w3.toArray n3) :: (r2, listOf w2.toArray n2) :: (r1, listOf vr1.toArray n1) :: (L' + 1, oc2) :: inner) := ⟨_, kN⟩
  replace kF := Mine.Fr.eqm (m' := (fun y : Str => if y = Str.ofString "step" then none else if y = Str.ofString "mail" then some (Value.str z tz) else if y = Str.ofString "total" then some (Value.int total t3) else if y = Str.ofString "choices" then some (Value.ref r4) else if y = Str.ofString "due" then some (Value.ref r3) else if y = Str.ofString "pieces" then some (Value.ref r2) else if y = Str.ofString "numbers" then some (Value.ref r1) else if y = Str.ofString "script" then some (Value.ref c) else none)) kF fun y => by
    by_cases h1 : y = Str.ofString "step"
    · subst h1; rfl
    · by_cases h2 : y = Str.ofString "mail"
      · subst h2; rfl
      · by_cases h3 : y = Str.ofString "total"
        · subst h3; rfl
        · by_cases h4 : y = Str.ofString "choices"
          · subst h4; rfl
          · by_cases h5 : y = Str.ofString "due"
            · subst h5; rfl
            · by_cases h6 : y = Str.ofString "pieces"
              · subst h6; rfl
              · by_cases h7 : y = Str.ofString "numbers"
                · subst h7; rfl
                · by_cases h8 : y = Str.ofString "script"
                  · subst h8; rfl
                  · simp only [h1, h2, h3, h4, h5, h6, h7, h8, if_false]
                    show bindL _ [(Str.ofString "script", Value.ref c)] _ y = none
                    unfold bindL bindL
                    split
                    · exact if_neg h8
                    · rfl
  have htm : 0 ≤ (total.fdiv 3).fmod 3 ∧ (total.fdiv 3).fmod 3 < 3 := by
    rw [Int.fmod_eq_emod_of_nonneg _ (by decide)]; omega
  obtain ⟨tn, htn⟩ : ∃ tn : Nat, (total.fdiv 3).fmod 3 = (tn : Int) := ⟨((total.fdiv 3).fmod 3).toNat, by omega⟩
  rw [htn] at htm hcd2
  refine Stp.mk (wpAny_toks (For_range (h₀ := s.heap) (L := L') (n := tn + 1) (m := (fun y : Str => if y = Str.ofString "step" then none else if y = Str.ofString "mail" then some (Value.str z tz) else if y = Str.ofString "total" then some (Value.int total t3) else if y = Str.ofString "choices" then some (Value.ref r4) else if y = Str.ofString "due" then some (Value.ref r3) else if y = Str.ofString "pieces" then some (Value.ref r2) else if y = Str.ofString "numbers" then some (Value.ref r1) else if y = Str.ofString "script" then some (Value.ref c) else none)) (news := (DT, { cls := .type "tuple", data := .seq #[.int total t3, .ref r4] nt2 }) :: (r4, o4) :: (tt, { cls := .type "tuple", data := .seq #[.ref r2, .ref r3] nt }) :: (r3, listOf w3.toArray n3) :: (r2, listOf w2.toArray n2) :: (r1, listOf vr1.toArray n1) :: (L' + 1, oc2) :: inner) rfl
    (fun k m₁ nw => ∃ (st : Option Value) (zk : Str) (tk : Tok), nw = (DT, { cls := .type "tuple", data := .seq #[.int total t3, .ref r4] nt2 }) :: (r4, o4) :: (tt, { cls := .type "tuple", data := .seq #[.ref r2, .ref r3] nt }) :: (r3, listOf w3.toArray n3) :: (r2, listOf w2.toArray n2) :: (r1, listOf vr1.toArray n1) :: (L' + 1, oc2) :: inner ∧ zk.cps.toList = mailL (iterR (total.fdiv 9) (chs ps) k) ∧
      m₁ = (fun y : Str => if y = Str.ofString "step" then st else if y = Str.ofString "mail" then some (Value.str zk tk) else if y = Str.ofString "total" then some (Value.int total t3) else if y = Str.ofString "choices" then some (Value.ref r4) else if y = Str.ofString "due" then some (Value.ref r3) else if y = Str.ofString "pieces" then some (Value.ref r2) else if y = Str.ofString "numbers" then some (Value.ref r1) else if y = Str.ofString "script" then some (Value.ref c) else none))
    rfl (by omega) ?_ ⟨none, z, tz, rfl, hz, rfl⟩ ?_ ?_))
  · k_steps
    rename Fr _ _ _ _ => kF1
    rename News _ _ _ _ => kN1
    rename IsRange _ _ _ _ _ _ _ _ => hr
    have e2 : 1 + (tn : Int) = ((tn + 1 : Nat) : Int) := by push_cast; omega
    rw [e2] at hr
    exact Stp.mk ⟨_, _, _, _, _, _, rfl, rfl, hr, kF1, kN1⟩
  · rintro k t m₁ nw h₁ tk₁ I oI hk ⟨st, zk, tkk, rfl, hzk, rfl⟩ hoff hLI F₁ N₁
    clear kF kN
    k_steps
    rename Fr _ _ _ _ => kF
    rename News _ _ _ _ => kN
    have hok := iterR_ok (total.fdiv 9) (chs ps) hcb k
    have hRl := iterR_len (total.fdiv 9) (chs ps) k
    have hzl : zk.length ≤ 50 * 16 := by
      have e1 : zk.length = zk.cps.toList.length := by rw [Array.length_toList]; rfl
      have e2 := mailL_len_le _ fun r hr => ⟨(hok r hr).1, Nat.le_trans (hok r hr).2.1 (by omega), (hok r hr).2.2⟩
      rw [e1, hzk]
      omega
    refine Stp.mk (quote_spec (dp + 1) (un + 3) gd _ _ _ _ (fun a o e => kF.keep _ _ (X a o e)) (T.keeps kF.keep) (by omega) (by omega) zk tkk (iterR (total.fdiv 9) (chs ps) k) hzk (fun r hr => (hok r hr).1) (by omega) (by omega) fun z2 tz2 h7 tk7 hz2 keep7 => ?_)
    have kN2 := kN.grown keep7
    have kF2 := kF.keeps keep7
    clear kF kN keep7
    k_steps
    rename Fr _ _ _ _ => kF3
    rename News _ _ _ _ => kN3
    refine TurnEnd.intro (Mine.Fr.eqm (m' := (fun y : Str => if y = Str.ofString "step" then some (Value.int (k : Int) t) else if y = Str.ofString "mail" then some (Value.str z2 tz2) else if y = Str.ofString "total" then some (Value.int total t3) else if y = Str.ofString "choices" then some (Value.ref r4) else if y = Str.ofString "due" then some (Value.ref r3) else if y = Str.ofString "pieces" then some (Value.ref r2) else if y = Str.ofString "numbers" then some (Value.ref r1) else if y = Str.ofString "script" then some (Value.ref c) else none)) kF3 fun y => ?_) kN3 hoff ⟨_, z2, tz2, rfl, hz2, rfl⟩
    by_cases h1 : y = Str.ofString "step"
    · subst h1; rfl
    · by_cases h2 : y = Str.ofString "mail"
      · subst h2; rfl
      · simp only [h1, h2, if_false]
  · rintro h' tk' m' nw ⟨st, zk, tkk, rfl, hzk, rfl⟩ F N hle6
    have hT6 : 600 ≤ tk' := Nat.le_trans (Nat.le_trans hT5 (by dsimp only; omega)) hle6
    clear kF kN hle6
    k_steps
    rename Fr _ _ _ _ => kF
    rename News _ _ _ _ => kN
    have hok := iterR_ok (total.fdiv 9) (chs ps) hcb (tn + 1)
    have hRl := iterR_len (total.fdiv 9) (chs ps) (tn + 1)
    have hzl : zk.length ≤ 50 * 16 := by
      have e1 : zk.length = zk.cps.toList.length := by rw [Array.length_toList]; rfl
      have e2 := mailL_len_le _ fun r hr => ⟨(hok r hr).1, Nat.le_trans (hok r hr).2.1 (by omega), (hok r hr).2.2⟩
      rw [e1, hzk]
      omega
    have hne : lastR (chs ps) (tn + 1) ≠ [] := by
      intro q
      have := congrArg List.length q
      rw [lastR, List.length_map, chs, List.length_map, List.length_range] at this
      exact absurd this (Nat.ne_of_gt (Nat.pow_pos (by decide)))
    have hsp := split_mail zk (Str.ofString "\r\n") rfl (lastR (chs ps) (tn + 1)) hne (by rw [hzk, iterR_succ, mailL_last])
    refine Stp.mk (wpAny_toks (KSpl.split1 kF kN rfl (fun D8 l8 h8 tk8 hl8 hs8 kF8 kN8 hlt8 hle8 => ?_) (by rw [sizeLine_eq]; omega)))
    have hT8 : 600 ≤ tk8 := Nat.le_trans (Nat.le_trans hT6 (by dsimp only; omega)) hle8
    clear kF kN hle8
    rw [← hl8, List.map_map] at hsp
    obtain ⟨l9, ⟨xe, te⟩, hl8e, hl9, hxe⟩ := split_last _ hsp
    clear hsp
    k_steps
    rename Fr _ _ _ _ => kF
    rename News _ _ _ _ => kN
    have hl9n : l9.length = (chs ps).length := by
      have := congrArg List.length hl9
      rw [List.length_map, List.length_map, lastR, List.length_map] at this
      exact this
    refine Stp.mk (wpAny_toks (Assign_ListComp_JA kF rfl rfl rfl (by decide) rfl (by decide) rfl rfl rfl rfl
      (fun ax its i ys nw => its = (strValues l9).toArray ∧ (∃ o, (ax, o) ∈ nw ∧ o.cls = .type "list" ∧ ∃ n, o.data = .seq its n) ∧
        (∀ p ∈ ((D8, listOf (strValues l8).toArray 0) :: (DT, { cls := .type "tuple", data := .seq #[.int total t3, .ref r4] nt2 }) :: (r4, o4) :: (tt, { cls := .type "tuple", data := .seq #[.ref r2, .ref r3] nt }) :: (r3, listOf w3.toArray n3) :: (r2, listOf w2.toArray n2) :: (r1, listOf vr1.toArray n1) :: (L' + 1, oc2) :: inner), p ∈ nw) ∧ RefsIn RP nw ys ((reads (chs ps) (tn + 1)).take i))
      (fun ax its i ys nw hJ => ⟨.inr hJ.2.1, by rw [hJ.1, List.size_toArray, strValues, List.length_map, sizeLine_eq]; omega⟩) ?_ ?_ ?_))
    · k_steps
      rename Fr _ _ _ _ => kF1
      rename News _ _ _ _ => kN1
      have hpk := pick_last l9 (xe, te)
      rw [← hl8e] at hpk
      rw [hpk] at kN1
      exact Stp.mk ⟨_, _, _, _, _, rfl, rfl, kF1, kN1, rfl, ⟨_, .head _, rfl, _, rfl⟩, fun p hp => .tail _ hp, trivial⟩
    · rintro ax its i v I oI C oC D m₂ h tk E' ys nw hi ⟨rfl, ⟨oa, hoa1, hoa2, na, hoa3⟩, hB, hrefs⟩ hNs hm F N off ⟨e1, e2, e3⟩
      clear kF kN
      obtain ⟨x, t, hxi, rfl⟩ := str_get hi
      have hil : i < l9.length := (List.getElem?_eq_some_iff.mp hxi).1
      obtain ⟨⟨DD, MM⟩, hdm⟩ : ∃ r, (lastR (chs ps) (tn + 1))[i]? = some r := ⟨_, List.getElem?_eq_getElem (by rw [lastR, List.length_map]; omega)⟩
      have hx : x.cps.toList = List.replicate DD 46 ++ List.replicate MM 61 := by
        have := congrArg (fun l => l[i]?) hl9
        rw [List.getElem?_map, List.getElem?_map, hxi, hdm] at this
        exact Option.some.inj this
      have hbd := lastR_mem hcb (List.mem_of_getElem? hdm)
      have hxl : x.length ≤ 1000 := by
        have e1 : x.length = x.cps.toList.length := by rw [Array.length_toList]; rfl
        rw [e1, hx, List.length_append, List.length_replicate, List.length_replicate]
        have h1 := hbd.1
        have h2 := hbd.2
        dsimp only at h1 h2
        omega
      have htake : (reads (chs ps) (tn + 1)).take (i + 1) = (reads (chs ps) (tn + 1)).take i ++ [rdij DD MM] := by
        rw [List.take_add_one, reads_last, List.getElem?_map, hdm]; rfl
      k_steps
      rename Fr _ _ _ _ => kF1
      rename News _ _ _ _ => kN1
      refine Stp.mk (read_spec (dp + 1) (un + 3) gd _ _ _ _ (fun a o e => kF1.keep _ _ (X a o e)) (T.keeps kF1.keep) (by omega) (by omega) x t DD MM hx hxl fun rr vr h' tk' keep hr0 hl hvr hsm => ?_)
      obtain ⟨orr, hor, hcr, nr, hdr⟩ := hl
      have kF2 := kF1.keeps keep
      have kN2 := kN1.grown keep
      have hnew := Mine.News.put kF1 kN1 keep hr0 hor
      have q1 := Mine.News.ne kN1 (.head _) hr0
      have q2 := Mine.News.ne kN1 (.tail _ (.head _)) hr0
      have q3 := Mine.News.ne kN1 (.tail _ (.tail _ (.head _))) hr0
      clear kF1 kN1
      k_steps
      refine Stp.mk ?_
      refine TurnJ.mk (nw' := (rr, orr) :: nw) kF2 (fun p hp => ?_) ⟨⟨Ne.symm q1, Ne.symm q2, Ne.symm q3⟩, off⟩ ⟨rfl, ⟨oa, .tail _ hoa1, hoa2, na, hoa3⟩, fun p hp => .tail _ (hB p hp), ?_⟩
      · rcases List.mem_cons.mp hp with rfl | hp
        · exact hnew _ (.tail _ (.head _))
        · rcases List.mem_cons.mp hp with rfl | hp
          · exact hnew _ (.tail _ (.tail _ (.head _)))
          · rcases List.mem_cons.mp hp with rfl | hp
            · exact hnew _ (.tail _ (.tail _ (.tail _ (.head _))))
            · rcases List.mem_cons.mp hp with rfl | hp
              · exact hnew _ (.head _)
              · exact hnew _ (.tail _ (.tail _ (.tail _ (.tail _ hp))))
      · rw [htake]
        refine RefsIn.snoc (.head _) hcr hdr ⟨hvr, hsm, ?_⟩ (hrefs.mono fun p hp => .tail _ hp)
        have h1 := rdij_len DD MM
        have h2 := hbd.1
        have h3 := hbd.2
        dsimp only at h2 h3
        omega
    · rintro ax its Dr h tk ys nw F N oD ⟨rfl, _, hB, hrefs⟩ hle9
      have hT9 : 600 ≤ tk := Nat.le_trans (Nat.le_trans hT8 (by dsimp only; omega)) hle9
      clear kF kN hle9
      have kN9 : News s.heap L' h ((Dr, LCg.lst ys) :: (D8, listOf (strValues l8).toArray 0) :: (DT, { cls := .type "tuple", data := .seq #[.int total t3, .ref r4] nt2 }) :: (r4, o4) :: (tt, { cls := .type "tuple", data := .seq #[.ref r2, .ref r3] nt }) :: (r3, listOf w3.toArray n3) :: (r2, listOf w2.toArray n2) :: (r1, listOf vr1.toArray n1) :: (L' + 1, oc2) :: nw) := fun p hp => by
        rcases List.mem_cons.mp hp with rfl | hp
        · exact N _ (.head _)
        · by_cases hi : p ∈ nw
          · exact N p (.tail _ hi)
          · refine N p (.tail _ (hB p ?_))
            simp only [List.mem_cons, hi, or_false] at hp
            simp only [List.mem_cons]
            rcases hp with hp | hp | hp | hp | hp | hp | hp | hp
            · exact .inl hp
            · exact .inr (.inl hp)
            · exact .inr (.inr (.inl hp))
            · exact .inr (.inr (.inr (.inl hp)))
            · exact .inr (.inr (.inr (.inr (.inl hp))))
            · exact .inr (.inr (.inr (.inr (.inr (.inl hp)))))
            · exact .inr (.inr (.inr (.inr (.inr (.inr (.inl hp))))))
            · exact .inr (.inr (.inr (.inr (.inr (.inr (.inr (.inl hp)))))))
      clear N
      have hxe2 : xe = Str.ofString "" := Str.ext' (Array.toList_inj.mp (hxe.trans rfl))
      k_steps
      rename Fr _ _ _ _ => kF
      rename News _ _ _ _ => kN
      have hL8 : Heap.IsList _ D8 (strValues l8).toArray := ⟨_, (kN _ (.tail _ (.head _))).1, rfl, _, rfl⟩
      have hsz8 : (strValues l8).toArray.size = l9.length + 1 := by rw [hl8e]; simp [strValues]
      refine subscriptTail_builtinR (x := Value.str (Str.ofString "") te) hL8.typeIs slot_list_getitem.lookup (wpAny_getItem_list_neg (Q := fun r s' => r = Value.str (Str.ofString "") te ∧ _) hL8 (by decide) (by rw [hsz8]; push_cast; omega) (by decide) (x := Value.str (Str.ofString "") te) ?_ ⟨rfl, ?_⟩)
      · rw [hsz8, ← hxe2]
        have : (-1 + ((l9.length + 1 : Nat) : Int)).toNat = l9.length := by push_cast; omega
        rw [this, hl8e]
        simp [strValues]
      clear hL8
      k_steps
      rename Fr _ _ _ _ => kF
      rename News _ _ _ _ => kN
      have hin : ∀ p ∈ inner, p ∈ nw := fun p hp => hB p (.tail _ (.tail _ (.tail _ (.tail _ (.tail _ (.tail _ (.tail _ (.tail _ hp))))))))
      have hcell : (L' + 1, oc2) ∈ nw := hB _ (.tail _ (.tail _ (.tail _ (.tail _ (.tail _ (.tail _ (.tail _ (.head _))))))))
      have hr4m : (r4, o4) ∈ nw := hB _ (.tail _ (.tail _ (.head _)))
      have hr3m : (r3, listOf w3.toArray n3) ∈ nw := hB _ (.tail _ (.tail _ (.tail _ (.tail _ (.head _)))))
      have hrl : refs.length = (chs ps).length := by rw [hinn.len]; rfl
      have hfull : (reads (chs ps) (tn + 1)).take (strValues l9).toArray.size = reads (chs ps) (tn + 1) := List.take_of_length_le (by rw [List.size_toArray, strValues, List.length_map, hl9n, reads, List.length_map]; exact Nat.le_refl _)
      rw [hfull] at hrefs
      refine Stp.mk (wpAny_toks (ListComp_JA kF rfl (by decide) rfl (by decide) rfl rfl
        (fun ax its i zs nw2 => ax = r4 ∧ its = refs.toArray ∧ (∀ p ∈ (Dr, LCg.lst ys) :: nw, p ∈ nw2) ∧ RefsIn IntsAre nw2 zs ((reads (chs ps) (tn + 1)).take i))
        (fun ax its i zs nw2 hJ => ⟨.inr ⟨o4, by rw [hJ.1]; exact hJ.2.2.1 _ (.tail _ hr4m), hc4, n4, by rw [hJ.2.1]; exact hd4⟩, by rw [hJ.2.1, List.size_toArray, hrl, sizeLine_eq]; omega⟩) ?_ ?_ ?_))
      · k_steps
        rename Fr _ _ _ _ => kF1
        rename News _ _ _ _ => kN1
        refine Stp.mk ⟨_, _, _, _, (Dr, LCg.lst ys) :: nw, rfl, rfl, kF1, fun p hp => ?_, rfl, rfl, fun p hp => hp, trivial⟩
        rcases List.mem_cons.mp hp with rfl | hp
        · exact kN1 _ (.head _)
        · exact kN1 p (.tail _ (.tail _ (.tail _ (.tail _ (.tail _ (.tail _ (.tail _ (.tail _ (.tail _ hp)))))))))
      · rintro ax its i v I oI C oC D m₂ h2 tk2 E' zs nw2 hi ⟨rfl, rfl, hB2, hrefs2⟩ hNs hm F2 N2 off ⟨e1, e2, e3⟩
        clear kF kN
        have hls : ListsAre h2 refs (chs ps) := hinn.lists fun p hp => (N2 p (.tail _ (.tail _ (.tail _ (hB2 p (.tail _ (hin p hp))))))).1
        obtain ⟨ch, ra, ws, hch, rfl, hla, hwa⟩ := listsAre_get hls i v (by simpa using hi)
        have hcb1 := hcb ch (List.mem_of_getElem? hch)
        have htake : (reads (chs ps) (tn + 1)).take (i + 1) = (reads (chs ps) (tn + 1)).take i ++ [rdij (1 + ch.sum.toNat + (tn + 1)) ch.length] := by
          rw [List.take_add_one]
          congr 1
          rw [reads, List.getElem?_map, hch]; rfl
        have N3 : News s.heap L' h2 ((I, oI) :: (C, oC) :: (D, LCg.lst zs) :: (L' + 1, oc2) :: nw2) := fun p hp => by
          rcases List.mem_cons.mp hp with rfl | hp
          · exact N2 _ (.head _)
          · rcases List.mem_cons.mp hp with rfl | hp
            · exact N2 _ (.tail _ (.head _))
            · rcases List.mem_cons.mp hp with rfl | hp
              · exact N2 _ (.tail _ (.tail _ (.head _)))
              · rcases List.mem_cons.mp hp with rfl | hp
                · exact N2 _ (.tail _ (.tail _ (.tail _ (hB2 _ (.tail _ hcell)))))
                · exact N2 p (.tail _ (.tail _ (.tail _ hp)))
        clear N2
        k_steps
        rename Fr _ _ _ _ => kF1
        rename News _ _ _ _ => kN1
        refine Stp.mk (row_spec (dp + 1) (un + 3) gd _ _ _ _ (fun a o e => kF1.keep _ _ (X a o e)) (T.keeps kF1.keep) (by omega) (by omega) ra ws ch (1 + (tn : Int)) _ hla hwa ⟨by omega, by omega⟩ hcb1.1 hcb1.2 fun rr vr h' tk' keep hr0 hl hvr => ?_)
        rw [row_rdij _ (tn + 1) (by push_cast; omega) ch hcb1] at hvr
        obtain ⟨orr, hor, hcr, nr, hdr⟩ := hl
        have kF2 := kF1.keeps keep
        have hnew := Mine.News.put kF1 kN1 keep hr0 hor
        have q1 := Mine.News.ne kN1 (.head _) hr0
        have q2 := Mine.News.ne kN1 (.tail _ (.head _)) hr0
        have q3 := Mine.News.ne kN1 (.tail _ (.tail _ (.head _))) hr0
        have kN2 := kN1.grown keep
        clear kF1 kN1
        k_steps
        refine Stp.mk ?_
        refine TurnJ.mk (nw' := (rr, orr) :: nw2) kF2 (fun p hp => ?_) ⟨⟨Ne.symm q1, Ne.symm q2, Ne.symm q3⟩, off⟩ ⟨rfl, rfl, fun p hp => .tail _ (hB2 p hp), ?_⟩
        · rcases List.mem_cons.mp hp with rfl | hp
          · exact hnew _ (.tail _ (.head _))
          · rcases List.mem_cons.mp hp with rfl | hp
            · exact hnew _ (.tail _ (.tail _ (.head _)))
            · rcases List.mem_cons.mp hp with rfl | hp
              · exact hnew _ (.tail _ (.tail _ (.tail _ (.head _))))
              · rcases List.mem_cons.mp hp with rfl | hp
                · exact hnew _ (.head _)
                · exact hnew _ (.tail _ (.tail _ (.tail _ (.tail _ (.tail _ hp)))))
        · rw [htake]
          exact RefsIn.snoc (.head _) hcr hdr hvr (hrefs2.mono fun p hp => .tail _ hp)
      · rintro ax its D2 h2 tk2 zs nw2 F2 N2 oD2 ⟨rfl, rfl, hB2, hrefs2⟩ hle10
        have hT10 : 600 ≤ tk2 := Nat.le_trans (Nat.le_trans hT9 (by dsimp only; omega)) hle10
        have hfull2 : (reads (chs ps) (tn + 1)).take refs.toArray.size = reads (chs ps) (tn + 1) := List.take_of_length_le (by rw [List.size_toArray, hrl, reads, List.length_map]; exact Nat.le_refl _)
        rw [hfull2] at hrefs2
        clear kF kN hle10
        have hn2 : ∀ p ∈ nw2, h2.get? p.1 = some p.2 := fun p hp => (N2 p (.tail _ hp)).1
        have hn1 : ∀ p ∈ nw, h2.get? p.1 = some p.2 := fun p hp => hn2 p (hB2 p (.tail _ hp))
        refine ne_lists ⟨_, hn2 _ (hB2 _ (.head _)), rfl, _, rfl⟩ (hrefs.lists (fun _ _ x => x.1) hn1) ⟨_, (N2 _ (.head _)).1, rfl, _, rfl⟩ (hrefs2.lists (fun _ _ x => x) hn2) (by show un + _ + 64 < _; omega) ?_
        have kN10 : News s.heap L' h2 ((D2, LCg.lst zs) :: (Dr, LCg.lst ys) :: (ax, o4) :: (r3, listOf w3.toArray n3) :: (L' + 1, oc2) :: nw2) := fun p hp => by
          rcases List.mem_cons.mp hp with rfl | hp
          · exact N2 _ (.head _)
          · rcases List.mem_cons.mp hp with rfl | hp
            · exact N2 _ (.tail _ (hB2 _ (.head _)))
            · rcases List.mem_cons.mp hp with rfl | hp
              · exact N2 _ (.tail _ (hB2 _ (.tail _ hr4m)))
              · rcases List.mem_cons.mp hp with rfl | hp
                · exact N2 _ (.tail _ (hB2 _ (.tail _ hr3m)))
                · rcases List.mem_cons.mp hp with rfl | hp
                  · exact N2 _ (.tail _ (hB2 _ (.tail _ hcell)))
                  · exact N2 p (.tail _ hp)
        clear N2 hn1 hn2
        k_steps
        rename Fr _ _ _ _ => kF
        rename News _ _ _ _ => kN
        have hnB : ∀ p ∈ nw, _ := fun p hp => (kN p (.tail _ (.tail _ (.tail _ (.tail _ (.tail _ (hB2 p (.tail _ hp)))))))).1
        refine Stp.mk (sums_spec (dp + 1) (un + 3) gd _ _ _ _ (fun a o e => kF.keep _ _ (X a o e)) (T.keeps kF.keep) (by omega) (by omega) Dr ys (reads (chs ps) (tn + 1)) ⟨_, (kN _ (.tail _ (.head _))).1, rfl, _, rfl⟩ (hrefs.rows (fun _ _ x => x) hnB) (by rw [reads, List.length_map]; omega) (reads_count _ _) (by dsimp only; omega) fun r5 vr5 h5' tk5' keep5 hr50 hl5 hv5 => ?_)
        obtain ⟨o5, ho5, hc5, n5, hd5⟩ := hl5
        have kN5 := Mine.News.put kF kN keep5 hr50 ho5
        have kF5 := kF.keeps keep5
        clear kF kN hnB keep5 hr50 ho5
        k_steps
        rename Fr _ _ _ _ => kF
        rename News _ _ _ _ => kN
        refine Stp.mk (told_spec (dp + 1) (un + 3) gd _ _ _ _ (fun a o e => kF.keep _ _ (X a o e)) (T.keeps kF.keep) (by omega) (by omega) r3 w3 ps (1 + (tn : Int)) _ ⟨_, (kN _ (.tail _ (.tail _ (.tail _ (.tail _ (.head _)))))).1, rfl, _, rfl⟩ hw3 hplen ⟨by omega, by omega⟩ fun r6 vr6 h6' tk6' keep6 hr60 hl6 hv6 => ?_)
        obtain ⟨o6, ho6, hc6, n6, hd6⟩ := hl6
        have kN6 := Mine.News.put kF kN keep6 hr60 ho6
        have kF6 := kF.keeps keep6
        clear kF kN keep6 hr60 ho6
        k_steps
        have hsum := reads_sums ps (tn + 1) hcb
        have hm := law_math ps ((tn + 1 : Nat) : Int) hpl ⟨by push_cast; omega, by push_cast; omega⟩
        have et : ((tn + 1 : Nat) : Int) = 1 + (tn : Int) := by push_cast; omega
        rw [hsum] at hv5
        rw [et] at hm hv5
        have hv5' : IntsAre vr5 (toldL ps (1 + (tn : Int))) := hm ▸ hv5
        refine PySem.W.eq_intsK ⟨o5, (kN6 _ (.tail _ (.head _))).1, hc5, n5, hd5⟩ hv5' ⟨o6, (kN6 _ (.head _)).1, hc6, n6, hd6⟩ hv6 (by show un + _ + 64 < _; omega) ?_
        rw [decide_eq_true rfl]
        exact Lv.mk kF6 fun keep => hret _ _ _ keep hb2
end
end Mine
end
section
open PySem PySem.W PyProof.Rows PySem.W.X PySem.W.ZRun
namespace Mine
end Mine
end
open PySem PySem.W PyProof.Rows PySem.W.X PySem.W.ZRun
set_option maxRecDepth 100000 in
set_option maxHeartbeats 0 in
theorem PySem.Challenge.cw_to0014_01_holds : PySem.Challenge.rw_to0014_01.Holds := by
  w_top off
  refine Mine.hd ?_
  intro w s₀ s₁ mg mb G y fa o pm cd doc dV kV ho hd hcd hD hmg hg args vals as L hpre hlay hrd hwl hlo
  have zf := z_facts (K := Mine.hd.heap_1) (fun P => by kernel_rfl) y
  have Xh : (Mine.hd.heap_1 w.params).In s₁.heap := InK.keeps w s₀.heap s₁.heap zf.2.1 (Laid.keeps L)
  refine Ground.open G ?_
  intro T B D TE TW
  wrow_args hpre hlay hrd hwl hlo
  have htk := script_toks L zf.2.2.2
  x_fa T Xh hmg
  refine Mine.law_spec (1 + claimMargin) 4 (some []) [] s₁ _ _ Xh T (by decide +kernel) (by decide +kernel) _ _ _ (by assumption) (by assumption) (by omega) ?_ (Nat.le_trans (show 600 ≤ 654 by decide) htk) fun h' tk' G' keep hb => ?_
  · rw [hg]; exact AllBare.empty
  · refine ⟨.inl ⟨_, _, [], rfl, fun _ => rfl, ReadsW.bool true, ?_, fun _ => ⟨List.nodup_nil, fun _ hm => nomatch hm⟩⟩, OldK.of_keep keep, rfl, hb⟩
    first | rfl | wrow_post
