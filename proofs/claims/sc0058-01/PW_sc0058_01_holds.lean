import PyProof.Rows.All
import Wide.All
import OpenK.AllK
import Wide.FinOn
import OpenK.KTop
import PyProof.StrLawsLast
import PyProof.StrLawsIdx
import Lean
import PySem.Challenge.RW_sc0058_01
set_option Elab.async false
set_option linter.all false
set_option compiler.extract_closed false
set_option genSizeOf false
set_option genInjectivity false
section
open PySem PySem.W PyProof.Rows
set_option maxRecDepth 100000
set_option maxHeartbeats 8000000
namespace Mine
noncomputable def fr2 (P : Params) : Frag :=
  let e (x : String) (t : Tok) (v : Value) : DictEntry := ⟨PyData.keyHash P x, .str x t, v⟩
  [(3, ⟨.type "dict", none, .dict #[
    e "__name__" 165 (.str "law_sc0058_01" 468), e "__doc__" 166 (.none), e "__package__" 167 (.none), e "__loader__" 168 (.builtin "__main__.__loader__#opaque"), 
    e "__spec__" 169 (.none), e "__annotations__" 170 (.ref 6), e "__builtins__" 171 (.ref 4), e "__file__" 173 (.str "/claim/cut.py" 172), e "__cached__" 174 (.none), 
    e "COMPILER_FLAG_NAMES" 219 (.ref 15), e "pretty_flags" 229 (.ref 22), e "_parse_varint" 238 (.ref 29), e "ELLIPSIS_MARKER" 242 (.str "..." 241), 
    e "_ellipsis_match" 254 (.ref 36), e "ENDMARKER" 258 (.int 0 257), e "LPAR" 260 (.int 7 259), e "RPAR" 262 (.int 8 261), e "LSQB" 264 (.int 9 263), 
    e "RSQB" 266 (.int 10 265), e "COLON" 268 (.int 11 267), e "COMMA" 270 (.int 12 269), e "SEMI" 272 (.int 13 271), e "PLUS" 274 (.int 14 273), 
    e "MINUS" 276 (.int 15 275), e "STAR" 278 (.int 16 277), e "SLASH" 280 (.int 17 279), e "VBAR" 282 (.int 18 281), e "AMPER" 284 (.int 19 283), 
    e "LESS" 286 (.int 20 285), e "GREATER" 288 (.int 21 287), e "EQUAL" 290 (.int 22 289), e "DOT" 292 (.int 23 291), e "PERCENT" 294 (.int 24 293), 
    e "LBRACE" 296 (.int 25 295), e "RBRACE" 298 (.int 26 297), e "EQEQUAL" 300 (.int 27 299), e "NOTEQUAL" 302 (.int 28 301), e "LESSEQUAL" 304 (.int 29 303), 
    e "GREATEREQUAL" 306 (.int 30 305), e "TILDE" 308 (.int 31 307), e "CIRCUMFLEX" 310 (.int 32 309), e "LEFTSHIFT" 312 (.int 33 311), e "RIGHTSHIFT" 314 (.int 34 313), 
    e "DOUBLESTAR" 316 (.int 35 315), e "PLUSEQUAL" 318 (.int 36 317), e "MINEQUAL" 320 (.int 37 319), e "STAREQUAL" 322 (.int 38 321), e "SLASHEQUAL" 324 (.int 39 323), 
    e "PERCENTEQUAL" 326 (.int 40 325), e "AMPEREQUAL" 328 (.int 41 327), e "VBAREQUAL" 330 (.int 42 329), e "CIRCUMFLEXEQUAL" 332 (.int 43 331), 
    e "LEFTSHIFTEQUAL" 334 (.int 44 333), e "RIGHTSHIFTEQUAL" 336 (.int 45 335), e "DOUBLESTAREQUAL" 338 (.int 46 337), e "DOUBLESLASH" 340 (.int 47 339), 
    e "DOUBLESLASHEQUAL" 342 (.int 48 341), e "AT" 344 (.int 49 343), e "ATEQUAL" 346 (.int 50 345), e "RARROW" 348 (.int 51 347), e "ELLIPSIS" 350 (.int 52 349), 
    e "COLONEQUAL" 352 (.int 53 351), e "EXCLAMATION" 354 (.int 54 353), e "NT_OFFSET" 356 (.int 256 355), e "EXACT_TOKEN_TYPES" 453 (.ref 37), 
    e "ISTERMINAL" 460 (.ref 46), e "ISEOF" 467 (.ref 53), e "_law_drawn" 475 (.ref 58), e "_law_trip" 485 (.ref 65), e "_law_ways" 495 (.ref 72), 
    e "_law_octets" 503 (.ref 79), e "_law_tape" 518 (.ref 86), e "_law_read" 524 (.ref 91), e "_law_rows" 530 (.ref 96), e "_law_even" 536 (.ref 101), 
    e "_law_rings" 542 (.ref 106), e "_law_sets" 548 (.ref 111), e "_law_named" 554 (.ref 116), e "law" 560 (.ref 121)] 79, #[]⟩),
  (15, ⟨.type "dict", none, .dict #[
    ⟨1, .int 1 189, .str "OPTIMIZED" 190⟩, ⟨2, .int 2 191, .str "NEWLOCALS" 192⟩, ⟨4, .int 4 193, .str "VARARGS" 194⟩, ⟨8, .int 8 195, .str "VARKEYWORDS" 196⟩, 
    ⟨16, .int 16 197, .str "NESTED" 198⟩, ⟨32, .int 32 199, .str "GENERATOR" 200⟩, ⟨64, .int 64 201, .str "NOFREE" 202⟩, ⟨128, .int 128 203, .str "COROUTINE" 204⟩, 
    ⟨256, .int 256 205, .str "ITERABLE_COROUTINE" 206⟩, ⟨512, .int 512 207, .str "ASYNC_GENERATOR" 208⟩] 10, #[]⟩),
  (37, ⟨.type "dict", none, .dict #[
    e "!" 357 (.int 54 353), e "!=" 359 (.int 28 301), e "%" 361 (.int 24 293), e "%=" 363 (.int 40 325), e "&" 365 (.int 19 283), e "&=" 367 (.int 41 327), 
    e "(" 369 (.int 7 259), e ")" 371 (.int 8 261), e "*" 373 (.int 16 277), e "**" 375 (.int 35 315), e "**=" 377 (.int 46 337), e "*=" 379 (.int 38 321), 
    e "+" 381 (.int 14 273), e "+=" 383 (.int 36 317), e "," 385 (.int 12 269), e "-" 387 (.int 15 275), e "-=" 389 (.int 37 319), e "->" 391 (.int 51 347), 
    e "." 393 (.int 23 291), e "..." 395 (.int 52 349), e "/" 397 (.int 17 279), e "//" 399 (.int 47 339), e "//=" 401 (.int 48 341), e "/=" 403 (.int 39 323), 
    e ":" 405 (.int 11 267), e ":=" 407 (.int 53 351), e ";" 409 (.int 13 271), e "<" 411 (.int 20 285), e "<<" 413 (.int 33 311), e "<<=" 415 (.int 44 333), 
    e "<=" 417 (.int 29 303), e "=" 419 (.int 22 289), e "==" 421 (.int 27 299), e ">" 423 (.int 21 287), e ">=" 425 (.int 30 305), e ">>" 426 (.int 34 313), 
    e ">>=" 427 (.int 45 335), e "@" 428 (.int 49 343), e "@=" 429 (.int 50 345), e "[" 430 (.int 9 263), e "]" 431 (.int 10 265), e "^" 432 (.int 32 309), 
    e "^=" 433 (.int 43 331), e "{" 434 (.int 25 295), e "|" 435 (.int 18 281), e "|=" 436 (.int 42 329), e "}" 437 (.int 26 297), e "~" 438 (.int 31 307)] 48, #[]⟩)]
noncomputable def stAt (i : Nat) : Stmt := (Challenge.pw_sc0058_01.main.body[i]?).getD (.Pass ⟨0, 0, 0, 0⟩)
noncomputable def s0 : Stmt := stAt 0
noncomputable def s1 : Stmt := stAt 1
noncomputable def s2 : Stmt := stAt 2
noncomputable def s3 : Stmt := stAt 3
noncomputable def s4 : Stmt := stAt 4
noncomputable def s5 : Stmt := stAt 5
noncomputable def s6 : Stmt := stAt 6
noncomputable def s7 : Stmt := stAt 7
noncomputable def s8 : Stmt := stAt 8
noncomputable def s9 : Stmt := stAt 9
noncomputable def s10 : Stmt := stAt 10
noncomputable def s11 : Stmt := stAt 11
noncomputable def s12 : Stmt := stAt 12
noncomputable def s13 : Stmt := stAt 13
noncomputable def s14 : Stmt := stAt 14
noncomputable def s15 : Stmt := stAt 15
noncomputable def s16 : Stmt := stAt 16
noncomputable def s17 : Stmt := stAt 17
noncomputable def s18 : Stmt := stAt 18
noncomputable def s19 : Stmt := stAt 19
noncomputable def s20 : Stmt := stAt 20
noncomputable def s21 : Stmt := stAt 21
noncomputable def s22 : Stmt := stAt 22
noncomputable def s23 : Stmt := stAt 23
noncomputable def s24 : Stmt := stAt 24
noncomputable def s25 : Stmt := stAt 25
noncomputable def s26 : Stmt := stAt 26
noncomputable def s27 : Stmt := stAt 27
noncomputable def s28 : Stmt := stAt 28
noncomputable def s29 : Stmt := stAt 29
noncomputable def s30 : Stmt := stAt 30
noncomputable def s31 : Stmt := stAt 31
noncomputable def s32 : Stmt := stAt 32
noncomputable def s33 : Stmt := stAt 33
noncomputable def s34 : Stmt := stAt 34
noncomputable def s35 : Stmt := stAt 35
noncomputable def s36 : Stmt := stAt 36
noncomputable def s37 : Stmt := stAt 37
noncomputable def s38 : Stmt := stAt 38
noncomputable def s39 : Stmt := stAt 39
noncomputable def s40 : Stmt := stAt 40
noncomputable def s41 : Stmt := stAt 41
noncomputable def s42 : Stmt := stAt 42
noncomputable def s43 : Stmt := stAt 43
noncomputable def s44 : Stmt := stAt 44
noncomputable def s45 : Stmt := stAt 45
noncomputable def s46 : Stmt := stAt 46
noncomputable def s47 : Stmt := stAt 47
noncomputable def s48 : Stmt := stAt 48
noncomputable def s49 : Stmt := stAt 49
noncomputable def s50 : Stmt := stAt 50
noncomputable def s51 : Stmt := stAt 51
noncomputable def s52 : Stmt := stAt 52
noncomputable def s53 : Stmt := stAt 53
noncomputable def s54 : Stmt := stAt 54
noncomputable def s55 : Stmt := stAt 55
noncomputable def s56 : Stmt := stAt 56
noncomputable def s57 : Stmt := stAt 57
noncomputable def s58 : Stmt := stAt 58
noncomputable def s59 : Stmt := stAt 59
noncomputable def s60 : Stmt := stAt 60
noncomputable def s61 : Stmt := stAt 61
noncomputable def s62 : Stmt := stAt 62
noncomputable def s63 : Stmt := stAt 63
noncomputable def s64 : Stmt := stAt 64
noncomputable def s65 : Stmt := stAt 65
noncomputable def s66 : Stmt := stAt 66
noncomputable def s67 : Stmt := stAt 67
noncomputable def s68 : Stmt := stAt 68
noncomputable def s69 : Stmt := stAt 69
noncomputable def s70 : Stmt := stAt 70
noncomputable def s71 : Stmt := stAt 71
noncomputable def s72 : Stmt := stAt 72
noncomputable def s73 : Stmt := stAt 73
noncomputable def pq2 : Program := { Challenge.pw_sc0058_01 with main := { Challenge.pw_sc0058_01.main with body := [s0, s1, s2, s3, s4, s5, s6, s7, s8, s9, s10, s11, s12, s13, s14, s15, s16, s17, s18, s19, s20, s21, s22, s23, s24, s25, s26, s27, s28, s29, s30, s31, s32, s33, s34, s35, s36, s37, s38, s39, s40, s41, s42, s43, s44, s45, s46, s47, s48, s49, s50, s51, s52, s53, s54, s55, s56, s57, s58, s59, s60, s61, s62, s63, s64, s65, s66, s67, s68, s69, s70, s71, s72, s73] } }
noncomputable def rq2 : OpenLaw := { Challenge.rw_sc0058_01 with prog := pq2 }
theorem rq2_eq : Challenge.rw_sc0058_01 = rq2 := by kernel_rfl
end Mine
end

section
open PySem PySem.W PyProof.Rows
set_option maxRecDepth 100000
namespace Mine
noncomputable def topT (tb : String → Option Builtin) (p : Program) (w : World) (n₀ : Nat) (ann : Option Value) : Nat → SharedT → Thread → Option SharedT
  | 0, _, _ => none
  | n + 1, s, t => match through t with
    | true => some s
    | false => match stepOk n₀ ann t with
      | false => none
      | true => (PySem.W.stepT (denote tb) p w s t).bind fun r => topT tb p w n₀ ann n r.1 r.2
theorem topT_of {tb : String → Option Builtin} {p : Program} {w : World} {n₀ : Nat} {ann : Option Value} : ∀ {n : Nat} {s s' : SharedT} {t : Thread}, topT tb p w n₀ ann n s t = some s' → topRun tb p w n₀ ann n s.abs t = some s'.abs
  | 0, _, _, _, h => nomatch h
  | n + 1, s, s', t, h => by
    unfold topT at h
    unfold topRun
    cases ht : through t with
    | true => rw [ht] at h; exact congrArg (Option.map SharedT.abs) h
    | false =>
      rw [ht] at h
      cases hk : stepOk n₀ ann t with
      | false => rw [hk] at h; exact nomatch h
      | true =>
        rw [hk] at h
        obtain ⟨⟨s₂, t₂⟩, hs, h⟩ := Option.bind_eq_some_iff.mp h
        rw [stepT_spec hs]
        exact topT_of h
noncomputable def btOf (l : List Obj) : Nat → Nat → Nat → BT
  | 0, _, _ => .nil
  | f + 1, a, b => match l[b]? with
    | some o => .node o (btOf l f (2 * a) (a + b)) (btOf l f (2 * a) (2 * a + b))
    | none => .nil
noncomputable def bootT (w : World) (os : OsState) : SharedT := ⟨btOf (boot_heap w.params).objs.toList 10 1 0, (boot_heap w.params).objs.size, (boot_heap w.params).life, Array.mk [], boot_drawn, boot_toks, os⟩
theorem bootT_abs (w : World) (os : OsState) : (bootT w os).abs = ⟨boot_heap w.params, Array.mk [], boot_drawn, boot_toks, os⟩ := by kernel_rfl
noncomputable def asked (p q : Program) (loose : List Str) (Xt : Shared → Bool) {α : Type} (Yf : Shared → α) (P : Params) (s : Shared) :=
  ((staticsOk (importedModules p.main.body) (boot_heap P) s.heap && namesBound p s.heap && gensDone s && laidKept (boot_heap P) s.heap), openSeen q loose (importedModules p.main.body) Xt true s, Yf s)
theorem leftT {p q : Program} {loose : List Str} {Xt : Shared → Bool} {α : Type} {Yf : Shared → α} {Ya : World → α} {N : Nat} {m₀ : Nat} {ann : Option Value}
    (e : opening p = plainProg p.main.scope.names) (hN : Nat.ble 600 N = true) (f : ∀ s, fenceModules? p s = some s)
    (size : ∀ P, ((boot_heap P).isNs mainGlobals, (boot_heap P).objs.size, (boot_heap P).nsMap mainGlobals "__annotations__") = (true, m₀, ann))
    (run : ∀ (w : World) (os : OsState), (topT treeTable p w m₀ ann N (bootT w os) (topStub p)).map (fun s => asked p q loose Xt Yf w.params s.abs) = some (true, openGood q loose, Ya w)) : LeftO p q loose Xt Yf Ya N := fun w => by
  obtain ⟨⟨h, gs, d, k, os⟩, e, e'⟩ := Option.map_eq_some_iff.mp (boot_open e hN f w)
  obtain ⟨rfl, rfl, rfl, rfl⟩ : h = boot_heap w.params ∧ gs = Array.mk [] ∧ d = boot_drawn ∧ k = boot_toks := by simpa using e'
  obtain ⟨z1, z2, z3⟩ : _ ∧ _ ∧ _ := by simpa only [Prod.mk.injEq] using size w.params
  obtain ⟨s, hs, hr⟩ := Option.map_eq_some_iff.mp (run w os)
  obtain ⟨l1, l2, l3⟩ : _ ∧ _ ∧ _ := by simpa only [Prod.mk.injEq, asked] using hr
  have r := topT_of hs
  rw [bootT_abs] at r
  have t : topFrom treeTable p w N ⟨boot_heap w.params, Array.mk [], boot_drawn, boot_toks, os⟩ = some s.abs := by
    unfold topFrom
    dsimp only
    rw [z1, z2, z3, r]
    show (match staticsOk (importedModules p.main.body) (boot_heap w.params) s.abs.heap && namesBound p s.abs.heap && gensDone s.abs && laidKept (boot_heap w.params) s.abs.heap with | true => _ | false => _) = _
    rw [l1]
  unfold openEnds
  rw [e]
  show (topFrom treeTable p w N _).map _ = _
  rw [t]
  exact congrArg some (Prod.ext l2 l3)
end Mine
end

section
open PySem PySem.W PyProof.Rows
set_option maxRecDepth 100000
set_option maxHeartbeats 8000000
namespace Mine
noncomputable def vw2 : Program := { pq2 with main := { pq2.main with body := [s1, s2, s3, s5, s6, s8, s9, s10, s11, s12, s13, s14, s15, s16, s17, s18, s19, s20, s21, s22, s23, s24, s25, s26, s27, s28, s29, s30, s31, s32, s33, s34, s35, s36, s37, s38, s39, s40, s41, s42, s43, s44, s45, s46, s47, s48, s49, s50, s51, s52, s53, s54, s55, s56, s57, s58, s59, s60, s62, s63, s64, s65, s66, s67, s68, s69, s70, s71, s72, s73] } }
noncomputable def lo2 : List PySem.Str := [⟨#[69, 88, 65, 67, 84, 95, 84, 79, 75, 69, 78, 95, 84, 89, 80, 69, 83]⟩, ⟨#[67, 79, 77, 80, 73, 76, 69, 82, 95, 70, 76, 65, 71, 95, 78, 65, 77, 69, 83]⟩]
noncomputable def hk2 : Hook := kHook fr2 [3, 15, 37] (fun _ => by kernel_rfl)
theorem said2 : OpenLaw.wellSaid rq2 = true := by kernel_rfl
theorem sz2 : ∀ P, ((boot_heap P).isNs mainGlobals, (boot_heap P).objs.size, (boot_heap P).nsMap mainGlobals "__annotations__") = (true, 11, some (.ref 6)) := by intro P; kernel_rfl
noncomputable def xt2 (s : Shared) : Bool := xlAt vw2 [] s && PySem.W.recOk (RowW.records rq2.row.toRowW) s
noncomputable abbrev run2 (w : World) : Prop := ∀ os : OsState, (topT treeTable pq2 w 11 (some (.ref 6)) 4570 (bootT w os) (topStub pq2)).map (fun s => asked pq2 vw2 lo2 xt2 (Hook.obs hk2) w.params s.abs) = some (true, openGood vw2 lo2, Hook.val hk2 w)
theorem lw2 : looseW vw2 lo2 = lo2 := by kernel_rfl
theorem dr2 : drecsOf vw2 = [] := by kernel_rfl
theorem pl2 : plainsOf vw2 lo2 = [] := by kernel_rfl
theorem dc2 : dclssOf vw2 lo2 = [] := by kernel_rfl
theorem wd2 : wdefsOf vw2 = [] := by kernel_rfl
theorem wl2 : wlitsOf vw2 = [] := by kernel_rfl
theorem wc2 : wclssOf vw2 lo2 = [] := by kernel_rfl
noncomputable def tc2 (x : Str) : Bool := (tupIntsOf vw2 x).isNone && (tupStrsOf vw2 x).isNone && (tabIntOf vw2 x).isNone
noncomputable def cf2 : Str := ⟨#[67, 79, 77, 80, 73, 76, 69, 82, 95, 70, 76, 65, 71, 95, 78, 65, 77, 69, 83]⟩
theorem tb2 (h : Heap) : tablesOk vw2 h = (h.tabIntOk cf2 ((tabIntOf vw2 cf2).getD [])) := by
  have e : ((tupIntsOf vw2 cf2).isNone && (tupStrsOf vw2 cf2).isNone, (tabIntOf vw2 cf2).isSome, (valNames vw2).filter (fun x => !tc2 x)) = (true, true, [cf2]) := by kernel_rfl
  simp only [Prod.mk.injEq, Bool.and_eq_true, Option.isNone_iff_eq_none, Option.isSome_iff_exists] at e
  obtain ⟨⟨e2, e3⟩, ⟨D, e4⟩, e5⟩ := e
  rw [e4]
  have hin : cf2 ∈ valNames vw2 := (List.mem_filter.mp (e5 ▸ List.mem_cons_self : cf2 ∈ (valNames vw2).filter (fun x => !tc2 x))).1
  have h1 : ∀ x ∈ valNames vw2, x ≠ cf2 → tc2 x = true := fun x hx hn => by
    cases hc : tc2 x with
    | true => rfl
    | false =>
      have : x ∈ (valNames vw2).filter (fun x => !tc2 x) := List.mem_filter.mpr ⟨hx, by rw [hc]; rfl⟩
      rw [e5] at this
      exact absurd (List.mem_singleton.mp this) hn
  refine Bool.eq_iff_iff.mpr ⟨fun q => ?_, fun q => List.all_eq_true.mpr fun x hx => ?_⟩
  · have := List.all_eq_true.mp q cf2 hin
    rw [e2, e3, e4] at this
    exact this
  · by_cases hn : x = cf2
    · rw [hn, e2, e3, e4]; exact q
    · have := h1 x hx hn
      simp only [tc2, Bool.and_eq_true, Option.isNone_iff_eq_none] at this
      rw [this.1.1, this.1.2, this.2]
      rfl
theorem runF (w : World) : run2 (w.withFollow "special-get-raises" false) := by
  unfold run2
  simp only [asked, openSeen, openGood, plainSeenE, plainGoodE, plainSeenD, plainGoodD, pinSeenD, pinGoodD, wideSeen, wideGood, clsSeenW, clsGoodW, lw2, dr2, pl2, dc2, wd2, wl2, wc2, tb2, List.map_nil, List.all_nil, Bool.and_true]
  rw [Fast.te14364793385576792824]
  intro os
  kernel_rfl
theorem runT (w : World) : run2 (w.withFollow "special-get-raises" true) := by
  unfold run2
  simp only [asked, openSeen, openGood, plainSeenE, plainGoodE, plainSeenD, plainGoodD, pinSeenD, pinGoodD, wideSeen, wideGood, clsSeenW, clsGoodW, lw2, dr2, pl2, dc2, wd2, wl2, wc2, tb2, List.map_nil, List.all_nil, Bool.and_true]
  rw [Fast.te14364793385576792824]
  intro os
  kernel_rfl
theorem hl2 : LeftO pq2 vw2 lo2 xt2 (Hook.obs hk2) (Hook.val hk2) 4570 :=
  leftT (by kernel_rfl) (by kernel_rfl) (fun s => by kernel_rfl) sz2 (byRow2 "special-get-raises" (P := run2) runF runT)
end Mine
end

open PySem
namespace Mine
local macro_rules | `(tactic| omega) => `(tactic| lia)
section
open PySem
set_option backward.match.sparseCases false
inductive Bf where
  | len | sum | sorted | hex | iter | next | range | list | set | enumerate | stop
inductive Mt where
  | append | extend | join | split | startswith | endswith | find | rfind | index | count | get
inductive V where
  | none | bool (b : Bool) | int (i : Int) | str (s : Str)
  | list (xs : List V) | tup (xs : List V) | dict (byStr : Bool) (ks vs : List V)
  | range (n : Int)
  | fn (x : Str) | bf (b : Bf)
inductive A where
  | val (v : V) | plc (i : Nat)
inductive M where
  | lst (xs : List V) | dct (ks vs : List V) | itr (xs : List V) | cell (a : Option A)
structure S where
  loc : List (Str × A)
  mem : List (Option M)
structure Cx where
  scope : Scope
  cells : List (Str × Nat)
inductive Fl where
  | nxt | brk | cnt | ret (v : V)
inductive Out (α : Type) where
  | ok (a : α) (σ : S) | exc (σ : S) | bad
noncomputable def Out.bind {α β : Type} (o : Out α) (f : α → S → Out β) : Out β := match o with
  | .ok a σ => f a σ
  | .exc σ => .exc σ
  | .bad => .bad
noncomputable def noX {α : Type} : Out α → Out α
  | .exc _ => .bad
  | o => o
noncomputable def Out.bindV {β : Type} (o : Out A) (f : V → S → Out β) : Out β := match o with
  | .ok (.val v) σ => f v σ
  | .ok (.plc _) _ => .bad
  | .exc σ => .exc σ
  | .bad => .bad
noncomputable def Out.of {α : Type} (o : Option α) (σ : S) : Out α := match o with
  | some a => .ok a σ
  | none => .bad
noncomputable def eqN : List Nat → List Nat → Bool
  | [], [] => true
  | a :: r, b :: t => cond (Nat.beq a b) (eqN r t) false
  | [], _ :: _ => false
  | _ :: _, [] => false
noncomputable def nEq (a b : Str) : Bool := eqN a.cps.toList b.cps.toList
noncomputable def lkN {α : Type} : List (Str × α) → Str → Option α
  | [], _ => none
  | p :: r, x => cond (nEq x p.1) (some p.2) (lkN r x)
noncomputable def putN {α : Type} : List (Str × α) → Str → α → List (Str × α)
  | [], x, a => [(x, a)]
  | p :: r, x, a => cond (nEq x p.1) ((x, a) :: r) (p :: putN r x a)
noncomputable def one {α : Type} : List α → Option α
  | [] => none
  | x :: r => match r with
    | [] => some x
    | _ :: _ => none
noncomputable def two {α : Type} : List α → Option (α × α)
  | [] => none
  | x :: r => match r with
    | [] => none
    | y :: r => match r with
      | [] => some (x, y)
      | _ :: _ => none
noncomputable def plcOf : A → Option Nat
  | .plc i => some i
  | .val _ => none
noncomputable def valOf : A → Option V
  | .val v => some v
  | .plc _ => none
noncomputable def at? (mem : List (Option M)) (i : Nat) : Option M := match mem[i]? with
  | none => none
  | some o => o
noncomputable def lstOf : M → Option (List V)
  | .lst xs => some xs
  | _ => none
noncomputable def itrOf : M → Option (List V)
  | .itr xs => some xs
  | _ => none
noncomputable def optB {α β : Type} (o : Option α) (f : α → Out β) : Out β := match o with
  | some a => f a
  | none => .bad
noncomputable def onX {α : Type} (o : Out α) (k : S → Out α) : Out α := match o with
  | .ok a σ => .ok a σ
  | .exc σ => k σ
  | .bad => .bad
noncomputable def outer (loc : List (Str × A)) (o : Out V) : Out A := match o with
  | .ok v σ => .ok (.val v) ⟨loc, σ.mem⟩
  | .exc σ => .exc ⟨loc, σ.mem⟩
  | .bad => .bad
noncomputable def nameE : Expr → Option Str
  | .Name x _ => some x
  | _ => none
noncomputable def nameP : Expr → Option (Str × Pos)
  | .Name x p => some (x, p)
  | _ => none
noncomputable def listE : Expr → Option (List Expr)
  | .List es _ => some es
  | _ => none
noncomputable def subE : Expr → Option (Expr × Expr)
  | .Subscript o i _ => some (o, i)
  | _ => none
noncomputable def attrE : Expr → Option (Expr × Str × Pos)
  | .Attribute o nm p => some (o, nm, p)
  | _ => none
noncomputable def tupE : Expr → Option (List Expr)
  | .Tuple es _ _ => some es
  | _ => none
noncomputable def constOf : Const → Option V
  | .none => some .none
  | .bool b => some (.bool b)
  | .int i => some (.int i)
  | .str s => some (.str s)
  | _ => none
noncomputable def constE : Expr → Option Const
  | .Constant c _ _ => some c
  | _ => none
noncomputable def intC : Const → Option Int
  | .int i => some i
  | _ => none
noncomputable def boolC : Const → Option Bool
  | .bool b => some b
  | _ => none
noncomputable def isNeg : UnaryOp → Bool
  | .USub => true
  | _ => false
noncomputable def isNotO : UnaryOp → Bool
  | .Not => true
  | _ => false
noncomputable def isAndO : BoolOp → Bool
  | .And => true
  | _ => false
noncomputable def isMul : Operator → Bool
  | .Mult => true
  | _ => false
noncomputable def fnOf? : V → Option Str
  | .fn x => some x
  | _ => none
noncomputable def bfOf? : V → Option Bf
  | .bf b => some b
  | _ => none
noncomputable def tupOf : V → Option (List V)
  | .tup vs => some vs
  | _ => none
noncomputable def isListV : V → Bool
  | .list _ => true
  | _ => false
noncomputable def isEnumB : Bf → Bool
  | .enumerate => true
  | _ => false
noncomputable def isSetB : Bf → Bool
  | .set => true
  | _ => false
noncomputable def isStopB : Bf → Bool
  | .stop => true
  | _ => false
noncomputable def isSplitM : Mt → Bool
  | .split => true
  | _ => false
structure Fn where
  params : List Str
  body : List Stmt
  scope : Scope
structure Gl where
  glob : Str → Option V
  fns : Str → Option Fn
noncomputable def dbgS : Str := ⟨#[95, 95, 100, 101, 98, 117, 103, 95, 95]⟩
noncomputable def thaw : M → Option V
  | .lst xs => some (.list xs)
  | .dct ks vs => some (.dict true ks vs)
  | _ => none
inductive Kd where
  | loc | cel | glb | oth
noncomputable def kdOf : Option NameKind → Kd
  | none => .oth
  | some k => match k with
    | .local => .loc
    | .cell => .cel
    | .globalImplicit => .glb
    | _ => .oth
noncomputable def celOf : M → Option A
  | .cell a => a
  | _ => none
noncomputable def isCellM : M → Bool
  | .cell _ => true
  | _ => false
noncomputable def readRaw (g : Gl) (cx : Cx) (σ : S) (x : Str) : Option A := cond (nEq x dbgS) none <| match kdOf (lkN cx.scope.names x) with
  | .loc => lkN σ.loc x
  | .cel => (lkN cx.cells x).bind fun i => (at? σ.mem i).bind celOf
  | .glb => (g.glob x).map A.val
  | .oth => none
noncomputable def writeName (cx : Cx) (σ : S) (x : Str) (a : A) : Option S := match kdOf (lkN cx.scope.names x) with
  | .loc => some ⟨putN σ.loc x a, σ.mem⟩
  | .cel => (lkN cx.cells x).bind fun i => (at? σ.mem i).bind fun m => cond (isCellM m) (some ⟨σ.loc, σ.mem.set i (some (.cell (some a)))⟩) none
  | .glb => none
  | .oth => none
noncomputable def readAt (cx : Cx) (σ : S) (x : Str) (i : Nat) : Out A := optB (at? σ.mem i) fun m => match thaw m with
  | some v => optB (writeName cx ⟨σ.loc, σ.mem.set i none⟩ x (.val v)) fun σ' => .ok (.val v) σ'
  | none => cond (itrOf m).isSome (.ok (.plc i) σ) .bad
noncomputable def readName (g : Gl) (cx : Cx) (σ : S) (x : Str) : Out A := optB (readRaw g cx σ x) fun a => match a with
  | .val v => .ok (.val v) σ
  | .plc i => readAt cx σ x i
noncomputable def lim : Nat := 1100000
noncomputable def smallI (i : Int) : Bool := Nat.ble i.natAbs 9223372036854775807
noncomputable def onI {α : Type} (f : Int → Option α) : V → Option α
  | .int y => f y
  | _ => none
noncomputable def onS {α : Type} (f : Str → Option α) : V → Option α
  | .str y => f y
  | _ => none
noncomputable def onL {α : Type} (f : List V → Option α) : V → Option α
  | .list y => f y
  | _ => none
noncomputable def onBISL {α : Type} (fb : Bool → Option α) (fi : Int → Option α) (fs : Str → Option α) (fl : List V → Option α) : V → Option α
  | .bool x => fb x
  | .int x => fi x
  | .str x => fs x
  | .list x => fl x
  | _ => none
noncomputable def onR {α : Type} (f : Int → Option α) : V → Option α
  | .range n => f n
  | _ => none
noncomputable def onSD {α : Type} (f : Str → Option α) (fd : List V → List V → Option α) : V → Option α
  | .str y => f y
  | .dict s ks vs => cond s (fd ks vs) none
  | _ => none
noncomputable def natOf {α : Type} (f : Nat → Option α) : Int → Option α
  | .ofNat n => f n
  | .negSucc _ => none
noncomputable def binop (op : Operator) (a b : V) : Option V := match op with
  | .Add => onBISL (fun _ => none) (fun x => onI (fun y => some (.int (x + y))) b) (fun x => onS (fun y => cond (Nat.ble (x.length + y.length) lim) (some (.str (x ++ y))) none) b)
    (fun x => onL (fun y => cond (Nat.ble (x.length + y.length) lim) (some (.list (x ++ y))) none) b) a
  | .Sub => onI (fun x => onI (fun y => some (.int (x - y))) b) a
  | .Mult => onI (fun x => onI (fun y => cond (smallI x || smallI y) (some (.int (x * y))) none) b) a
  | .FloorDiv => onI (fun x => onI (fun y => cond (Nat.beq y.natAbs 0 || !Nat.blt y.natAbs 1000000) none (some (.int (x.fdiv y)))) b) a
  | .Mod => onI (fun x => onI (fun y => cond (Nat.beq y.natAbs 0) none (some (.int (x.fmod y)))) b) a
  | .BitAnd => onI (fun x => onI (fun y => some (.int (Builtin.bitAnd x y))) b) a
  | .BitOr => onI (fun x => onI (fun y => some (.int (Builtin.bitOr x y))) b) a
  | .BitXor => onI (fun x => onI (fun y => some (.int (Builtin.bitXor x y))) b) a
  | .LShift => onI (fun x => onI (fun y => natOf (fun n => cond (smallI x && Nat.ble n 1000) (some (.int (x * 2 ^ n))) none) y) b) a
  | .Pow => onI (fun x => onI (fun y => natOf (fun n => cond (smallI x && Nat.ble n 1000) (some (.int (x ^ n))) none) y) b) a
  | _ => none
noncomputable def strsOf : List V → Option (List Str)
  | [] => some []
  | .str s :: r => (strsOf r).map (s :: ·)
  | _ :: _ => none
noncomputable def intsOf : List V → Option (List Int)
  | [] => some []
  | .int i :: r => (intsOf r).map (i :: ·)
  | _ :: _ => none
noncomputable def keyEq : V → V → Bool
  | .str a, .str b => nEq a b
  | .int a, .int b => decide (a = b)
  | _, _ => false
noncomputable def lkV : List V → List V → V → Option V
  | k :: ks, v :: vs, x => cond (keyEq x k) (some v) (lkV ks vs x)
  | [], _, _ => none
  | _ :: _, [], _ => none
noncomputable def putV : List V → List V → V → V → List V × List V
  | k :: ks, v :: vs, x, y => cond (keyEq x k) (k :: ks, y :: vs) (let r := putV ks vs x y; (k :: r.1, v :: r.2))
  | [], vs, x, y => ([] ++ [x], vs ++ [y])
  | k :: ks, [], x, y => ((k :: ks) ++ [x], [] ++ [y])
noncomputable def shorts : List Str → Bool
  | [] => true
  | x :: r => x.cps.toList.all (fun c => Nat.blt c 1114112) && shorts r
noncomputable def strs2 (x y : List V) (f : List Str → List Str → Bool) : Option Bool := match strsOf x with
  | some p => match strsOf y with
    | some q => cond (shorts p && shorts q) (some (f p q)) none
    | none => none
  | none => none
noncomputable def cmp (op : CmpOp) (a b : V) : Option Bool := match op with
  | .Eq => onBISL (fun _ => none) (fun x => onI (fun y => some (decide (x = y))) b) (fun x => onS (fun y => some (nEq x y)) b) (fun x => onL (fun y => strs2 x y fun p q => decide (p = q)) b) a
  | .NotEq => onBISL (fun x => onBISL (fun y => some (x != y)) (fun _ => none) (fun _ => none) (fun _ => none) b) (fun x => onI (fun y => some (!decide (x = y))) b) (fun x => onS (fun y => some (!nEq x y)) b)
    (fun x => onL (fun y => strs2 x y fun p q => !decide (p = q)) b) a
  | .Lt => onI (fun x => onI (fun y => some (decide (x < y))) b) a
  | .Gt => onI (fun x => onI (fun y => some (decide (y < x))) b) a
  | .GtE => onI (fun x => onI (fun y => some (decide (y ≤ x))) b) a
  | .In => onBISL (fun _ => none) (fun x => onL (fun ys => (intsOf ys).map fun q => q.any fun z => decide (x = z)) b)
    (fun x => onSD (fun y => some (!(Builtin.Str.occurrences y x 0 y.length 1).isEmpty)) (fun ks vs => some (lkV ks vs (.str x)).isSome) b) (fun _ => none) a
  | .NotIn => onS (fun x => onS (fun y => some (!(!(Builtin.Str.occurrences y x 0 y.length 1).isEmpty))) b) a
  | _ => none
noncomputable def truth : V → Option Bool := onBISL (fun b => some b) (fun i => some (!Nat.beq i.natAbs 0)) (fun s => cond (Nat.ble s.length lim) (some (!Nat.beq s.length 0)) none) (fun _ => none)
noncomputable def ixL (xs : List V) : Int → Option V
  | .ofNat k => cond (Nat.ble k 1000000) xs[k]? none
  | .negSucc k => cond (Nat.ble (k + 1) xs.length && Nat.ble k 1000000) xs[xs.length - (k + 1)]? none
noncomputable def getIx (o i : V) : Option V := match o with
  | .list xs => onI (ixL xs) i
  | .dict s ks vs => cond s (onS (fun k => lkV ks vs (.str k)) i) (onI (fun k => lkV ks vs (.int k)) i)
  | .str s => onI (natOf fun k => cond (Nat.ble k 1000000) (s.cps[k]?.map fun c => V.str ⟨#[c]⟩) none) i
  | _ => none
noncomputable def partOf : V → Option (Option Int)
  | .none => some none
  | .int i => some (some i)
  | _ => none
noncomputable def pickL (xs : List V) (lo hi st : Option Int) : List V :=
  (sliceRange (sliceBounds lo hi st xs.length).1 (sliceBounds lo hi st xs.length).2.1 (sliceBounds lo hi st xs.length).2.2).filterMap (xs[·]?)
noncomputable def insI (x : Int) : List Int → List Int
  | [] => [x]
  | y :: r => cond (decide (x ≤ y)) (x :: y :: r) (y :: insI x r)
noncomputable def sortI : List Int → List Int
  | [] => []
  | x :: r => insI x (sortI r)
noncomputable def addI (σ : List Int) (k : Int) : List Int := cond (σ.any fun y => decide (k = y)) σ (k :: σ)
noncomputable def setV : V → Option V := onL fun xs => match intsOf xs with
  | some is => cond (Nat.blt is.length 64) (some (.list ((sortI (is.foldl addI [])).map V.int))) none
  | none => none
noncomputable def rangeV (n : Int) : List V := (List.range n.toNat).map fun i => V.int (Int.ofNat i)
noncomputable def signsOf (s : Str) : List V := s.cps.toList.map fun c => V.str ⟨#[c]⟩
noncomputable def itemsOf : V → Option (List V)
  | .list xs => some xs
  | .str s => some (signsOf s)
  | .range i => natOf (fun n => cond (Nat.ble n 1000) (some (rangeV (Int.ofNat n))) none) i
  | _ => none
noncomputable def enumOf : V → Option (List V)
  | .list xs => some xs
  | .str s => some (signsOf s)
  | _ => none
noncomputable def bfun (b : Bf) (v : V) : Option V := match b with
  | .len => onBISL (fun _ => none) (fun _ => none) (fun s => cond (Nat.ble s.length lim) (some (.int s.length)) none) (fun xs => cond (Nat.ble xs.length lim) (some (.int xs.length)) none) v
  | .sum => onL (fun xs => match intsOf xs with
      | some is => some (.int is.sum)
      | none => none) v
  | .hex => onI (natOf fun i => cond (Nat.ble i 9223372036854775807) (cond (Nat.ble (baseText "0x" 16 (Int.ofNat i)).length lim) (some (.str (baseText "0x" 16 (Int.ofNat i)))) none) none) v
  | .range => onI (natOf fun i => cond (Nat.ble i 1000) (some (.range i)) none) v
  | .list => onR (natOf fun i => cond (Nat.ble i 1000) (some (.list (rangeV (Int.ofNat i)))) none) v
  | .sorted => onL (fun xs => match intsOf xs with
      | some is => cond (Nat.blt is.length 64) (some (.list ((sortI is).map V.int))) none
      | none => none) v
  | _ => none
noncomputable def mtS : Mt → Str
  | .append => ⟨#[97, 112, 112, 101, 110, 100]⟩
  | .extend => ⟨#[101, 120, 116, 101, 110, 100]⟩
  | .join => ⟨#[106, 111, 105, 110]⟩
  | .split => ⟨#[115, 112, 108, 105, 116]⟩
  | .startswith => ⟨#[115, 116, 97, 114, 116, 115, 119, 105, 116, 104]⟩
  | .endswith => ⟨#[101, 110, 100, 115, 119, 105, 116, 104]⟩
  | .find => ⟨#[102, 105, 110, 100]⟩
  | .rfind => ⟨#[114, 102, 105, 110, 100]⟩
  | .index => ⟨#[105, 110, 100, 101, 120]⟩
  | .count => ⟨#[99, 111, 117, 110, 116]⟩
  | .get => ⟨#[103, 101, 116]⟩
noncomputable def mtOf (x : Str) : Option Mt :=
  cond (nEq x (mtS .append)) (some .append) <| cond (nEq x (mtS .extend)) (some .extend) <| cond (nEq x (mtS .join)) (some .join) <| cond (nEq x (mtS .split)) (some .split) <| cond (nEq x (mtS .startswith)) (some .startswith) <| cond (nEq x (mtS .endswith)) (some .endswith) <| cond (nEq x (mtS .find)) (some .find) <| cond (nEq x (mtS .rfind)) (some .rfind) <| cond (nEq x (mtS .index)) (some .index) <| cond (nEq x (mtS .count)) (some .count) <| cond (nEq x (mtS .get)) (some .get) none
noncomputable def methS (m : Mt) (s : Str) (as : List V) : Option V := match as with
  | [] => none
  | a :: r => match r with
    | [] => match m with
      | .startswith => onS (fun y => some (.bool (Txt.startswith s y))) a
      | .endswith => onS (fun y => some (.bool (Txt.endswith s y))) a
      | .find => onS (fun y => some (.int (Txt.find s y))) a
      | .rfind => onS (fun y => some (.int (Txt.rfind s y))) a
      | .join => onL (fun xs => match strsOf xs with
        | some ts => cond (JoinOk s ts) (some (.str (Txt.join s ts))) none
        | none => none) a
      | _ => none
    | b :: r => match r with
      | [] => none
      | c :: r => match r with
        | [] => match m with
          | .find => onS (fun y => onI (fun i => onI (fun j => some (.int (match Builtin.Str.occurrences s y (fromIndex s.length i) (min (fromIndex s.length j) s.length) 1 with | k :: _ => (k : Int) | [] => -1))) c) b) a
          | _ => none
        | _ :: _ => none
noncomputable def methL (m : Mt) (xs as : List V) : Option V := match as with
  | [] => none
  | a :: r => match r with
    | [] => match m with
      | .index => onI (fun k => match intsOf xs with
        | some is => cond (is.all smallI && Nat.ble is.length 1000 && is.any fun x => decide (x = k)) (some (.int (Int.ofNat (is.idxOf k)))) none
        | none => none) a
      | .count => onI (fun k => match intsOf xs with
        | some is => some (.int (Int.ofNat (is.count k)))
        | none => none) a
      | _ => none
    | _ :: _ => none
noncomputable def methD (m : Mt) (ks vs as : List V) : Option V := match as with
  | [] => none
  | a :: r => match r with
    | [] => none
    | d :: r => match r with
      | [] => match m with
        | .get => onI (fun k => some ((lkV ks vs (.int k)).getD d)) a
        | _ => none
      | _ :: _ => none
noncomputable def meth (m : Mt) (o : V) (as : List V) : Option V := match o with
  | .str s => methS m s as
  | .list xs => methL m xs as
  | .dict s ks vs => cond s none (methD m ks vs as)
  | _ => none
structure Ih where
  ex : Cx → S → Expr → Out A
  tr : Cx → S → Expr → Out Bool
  sts : Cx → S → List Stmt → Out Fl
  call : List (Option M) → Str → List A → Out V
section
variable (g : Gl) (ih : Ih) (cx : Cx)
noncomputable def starred : Expr → Bool
  | .Starred .. => true
  | _ => false
noncomputable def exs : S → List Expr → Out (List A)
  | σ, [] => .ok [] σ
  | σ, e :: r => cond (starred e) .bad <| (ih.ex cx σ e).bind fun a σ₁ => (exs σ₁ r).bind fun as σ₂ => .ok (a :: as) σ₂
noncomputable def valsOf : List A → Option (List V)
  | [] => some []
  | .val v :: r => (valsOf r).map (v :: ·)
  | .plc _ :: _ => none
noncomputable def exVs (σ : S) (es : List Expr) : Out (List V) := (exs ih cx σ es).bind fun as σ₁ => Out.of (valsOf as) σ₁
noncomputable def exPart (σ : S) : Option Expr → Out (Option Int)
  | none => .ok none σ
  | some e => (ih.ex cx σ e).bindV fun v σ₁ => Out.of (partOf v) σ₁
noncomputable def placeOf (σ : S) (e : Expr) : Option (Str × Nat × M) := (nameE e).bind fun x => ((readRaw g cx σ x).bind plcOf).bind fun i => (at? σ.mem i).map fun m => (x, i, m)
noncomputable def lstAt (σ : S) (e : Expr) : Option (Nat × List V) := (placeOf g cx σ e).bind fun p => (lstOf p.2.2).map fun xs => (p.2.1, xs)
noncomputable def isCall0 : Expr → Bool
  | .Call _ es _ _ => es.isEmpty
  | _ => false
noncomputable def methOk (o : Expr) (es : List Expr) (apos pos : Pos) : Bool := !isCall0 o && (Nat.beq apos.endLine pos.line && Nat.blt es.length 20)
noncomputable def repOf (vs : List V) (k : V) : Option M := (one vs).bind fun v => onI (natOf fun k => cond (Nat.ble k 1000) (some (.lst (List.replicate k v))) none) k
noncomputable def splitOf (s : V) (as : List V) : Option M := (one as).bind fun y => onS (fun s => onS (fun y => cond (Nat.ble s.length lim && !Nat.beq y.length 0) (some (.lst ((Txt.split s y).map V.str))) none) y) s
noncomputable def splitCall (f : Expr) (es : List Expr) (ks : List Keyword) : Option ((Expr × Str × Pos) × Expr) :=
  (attrE f).bind fun q => (mtOf q.2.1).bind fun m => cond (isSplitM m && ks.isEmpty) ((one es).map fun e => (q, e)) none
noncomputable def exF (σ : S) : Expr → Out M
  | .List es _ => (exVs ih cx σ es).bind fun vs σ₁ => cond (Nat.ble vs.length lim) (.ok (.lst vs) σ₁) .bad
  | .BinOp l op n _ => cond (isMul op) (optB ((listE l).bind one) fun e => (exVs ih cx σ [e]).bind fun vs σ₁ => (ih.ex cx σ₁ n).bindV fun k σ₂ => Out.of (repOf vs k) σ₂) .bad
  | .Dict ks vs _ => cond (ks.isEmpty && vs.isEmpty) (.ok (.dct [] []) σ) .bad
  | .Call f es ks pos => optB (splitCall f es ks) fun q => cond (!methOk q.1.1 [q.2] q.1.2.2 pos) .bad <| (ih.ex cx σ q.1.1).bindV fun s σ₁ => (exVs ih cx σ₁ [q.2]).bind fun as σ₂ => Out.of (splitOf s as) σ₂
  | _ => .bad
noncomputable def isF : Expr → Bool
  | .List .. => true
  | .BinOp l op _ _ => (listE l).isSome && isMul op
  | .Dict ks vs _ => ks.isEmpty && vs.isEmpty
  | .Call f es ks _ => (splitCall f es ks).isSome
  | _ => false
noncomputable def store (σ : S) (x : Str) (a : A) : Out Unit := optB (writeName cx σ x a) fun σ' => .ok () σ'
noncomputable def storeAll (σ : S) : List Expr → List V → Out Unit
  | [], vs => cond vs.isEmpty (.ok () σ) .bad
  | t :: ts, vs => optB (nameE t) fun x => match vs with
    | v :: vs => (store cx σ x (.val v)).bind fun _ σ₁ => storeAll σ₁ ts vs
    | [] => .bad
noncomputable def seqOf : V → Option (List V)
  | .tup vs => some vs
  | .list vs => some vs
  | _ => none
noncomputable def assign (σ : S) (t : Expr) (v : V) : Out Unit := match t with
  | .Name x _ => store cx σ x (.val v)
  | .Tuple ts _ _ => optB (seqOf v) fun vs => storeAll cx σ ts vs
  | _ => .bad
noncomputable def isSetE : Expr → Bool
  | .Set .. => true
  | _ => false
noncomputable def isTup : Expr → Bool
  | .Tuple .. => true
  | _ => false
noncomputable def argOf (p : Bf → Bool) (σ : S) : Expr → Option Expr
  | .Call f es ks _ => (nameE f).bind fun x => cond ((((readRaw g cx σ x).bind valOf).bind bfOf?).any p && ks.isEmpty) (one es) none
  | _ => none
noncomputable def enumArg (σ : S) (e : Expr) : Option Expr := argOf g cx isEnumB σ e
noncomputable def src (σ : S) (t : Expr) (it : Expr) : Out (List V) := cond (isSetE it) .bad <| match enumArg g cx σ it with
  | some e => cond (!isTup t || starred e) .bad <| (ih.ex cx σ e).bindV fun v σ₁ => Out.of ((enumOf v).map fun xs => (xs.zipIdx).map fun p => V.tup [.int (Int.ofNat p.2), p.1]) σ₁
  | none => (ih.ex cx σ it).bindV fun v σ₁ => Out.of (itemsOf v) σ₁
noncomputable def tests (σ : S) : List Expr → Out Bool
  | [] => .ok true σ
  | t :: ts => (ih.tr cx σ t).bind fun b σ₁ => match b with
    | true => tests σ₁ ts
    | false => .ok false σ₁
noncomputable def turns (t : Expr) (ifs : List Expr) (elt : Expr) : S → List V → Out (List V)
  | σ, [] => .ok [] σ
  | σ, v :: vs => (assign cx σ t v).bind fun _ σ₁ => (tests ih cx σ₁ ifs).bind fun b σ₂ => match b with
    | true => (ih.ex cx σ₂ elt).bindV fun y σ₃ => (turns t ifs elt σ₃ vs).bind fun ys σ₄ => .ok (y :: ys) σ₄
    | false => turns t ifs elt σ₂ vs
noncomputable def turnsD (t : Expr) (k v : Expr) : S → List V → List V → List V → Out V
  | σ, [], ks, vs => .ok (.dict false ks vs) σ
  | σ, x :: xs, ks, vs => (assign cx σ t x).bind fun _ σ₁ => (ih.ex cx σ₁ k).bindV fun kv σ₂ => (ih.ex cx σ₂ v).bindV fun vv σ₃ => optB (onI some kv) fun kv => cond (Nat.ble ks.length 1000) (turnsD t k v σ₃ xs (putV ks vs (.int kv) vv).1 (putV ks vs (.int kv) vv).2) .bad
end
noncomputable def isFree : NameKind → Bool
  | .free => true
  | _ => false
noncomputable def isLoc : NameKind → Bool
  | .local => true
  | _ => false
noncomputable def isCellK : Option NameKind → Bool
  | some .cell => true
  | _ => false
noncomputable def isLocK : Option NameKind → Bool
  | some .local => true
  | _ => false
noncomputable def isFunK : ScopeKind → Bool
  | .function => true
  | _ => false
noncomputable def relabelS (scope outer : Scope) : Scope :=
  { scope with names := scope.names.map fun p => cond (isFree p.2 && isCellK (lkN outer.names p.1)) (p.1, .cell) p }
noncomputable def cellNames : List (Str × NameKind) → List Str
  | [] => []
  | (n, .cell) :: r => n :: cellNames r
  | _ :: r => cellNames r
noncomputable def inner (scope : Scope) (cx : Cx) (n : Nat) : Cx :=
  ⟨relabelS scope cx.scope, ((cellNames scope.names).zipIdx n) ++ cx.cells⟩
noncomputable def newCells (scope : Scope) : List (Option M) := (cellNames scope.names).map fun _ => some (.cell none)
noncomputable def scopeOk (scope : Scope) (cx : Cx) : Bool := isFunK scope.kind && Nat.ble (cellNames scope.names).length 1 &&
  scope.names.all (fun p => (!isLoc p.2 || isLocK (lkN scope.names p.1)) && (!isFree p.2 || (isCellK (lkN cx.scope.names p.1) && (lkN cx.cells p.1).isSome)))
noncomputable def closed (n : Nat) (mem : List (Option M)) : Bool := mem.all fun m => match m with
  | some (.cell (some (.plc i))) => Nat.blt i n
  | _ => true
noncomputable def back {α : Type} (loc : List (Str × A)) (n : Nat) (o : Out α) : Out α := match o with
  | .ok a σ => cond (closed n (σ.mem.take n)) (.ok a ⟨loc, σ.mem.take n⟩) .bad
  | .exc _ => .bad
  | .bad => .bad
section
variable (g : Gl) (ih : Ih) (cx : Cx)
noncomputable def nextAt (σ : S) (i : Nat) : Out A := optB ((at? σ.mem i).bind itrOf) fun xs => match xs with
  | x :: r => .ok (.val x) ⟨σ.loc, σ.mem.set i (some (.itr r))⟩
  | [] => .exc ⟨σ.loc, σ.mem.set i none⟩
noncomputable def lenGo (σ : S) (e : Expr) : Out A := match lstAt g cx σ e with
  | some p => cond (Nat.ble p.2.length lim) (.ok (.val (.int p.2.length)) σ) .bad
  | none => noX <| (ih.ex cx σ e).bindV fun v σ₁ => Out.of ((bfun .len v).map A.val) σ₁
noncomputable def sortGo (σ : S) (e : Expr) : Out A := match argOf g cx isSetB σ e with
  | some e' => cond (starred e') .bad <| noX <| (ih.ex cx σ e').bindV fun v σ₁ => Out.of ((setV v).map A.val) σ₁
  | none => noX <| (ih.ex cx σ e).bindV fun v σ₁ => Out.of ((bfun .sorted v).map A.val) σ₁
noncomputable def bfCall (σ : S) (b : Bf) (e : Expr) : Out A := match b with
  | .iter => noX <| (ih.ex cx σ e).bindV fun v σ₁ => optB (onL some v) fun xs => .ok (.plc σ₁.mem.length) ⟨σ₁.loc, σ₁.mem ++ [some (.itr xs)]⟩
  | .next => (noX (ih.ex cx σ e)).bind fun a σ₁ => optB (plcOf a) fun i => nextAt σ₁ i
  | .len => lenGo g ih cx σ e
  | .sorted => sortGo g ih cx σ e
  | _ => noX <| (ih.ex cx σ e).bindV fun v σ₁ => Out.of ((bfun b v).map A.val) σ₁
noncomputable def fnCall (σ : S) (nm : Str) (es : List Expr) : Out A := cond (!(g.fns nm).isSome) .bad <| (noX (exs ih cx σ es)).bind fun as σ₁ => match valsOf as with
  | some _ => (noX (ih.call [] nm as)).bind fun v _ => .ok (.val v) σ₁
  | none => outer σ₁.loc (ih.call σ₁.mem nm as)
noncomputable def exCall (σ : S) (f : Expr) (es : List Expr) (pos : Pos) : Out A := match f with
  | .Attribute o nm apos => optB (mtOf nm) fun m => cond (!methOk o es apos pos) .bad <| noX <| (ih.ex cx σ o).bindV fun ov σ₁ => (exVs ih cx σ₁ es).bind fun as σ₂ => Out.of ((meth m ov as).map A.val) σ₂
  | .Name x _ => optB ((readRaw g cx σ x).bind valOf) fun v => match fnOf? v with
    | some nm => fnCall g ih cx σ nm es
    | none => optB (bfOf? v) fun b => optB (one es) fun e => cond (starred e) .bad <| bfCall g ih cx σ b e
  | _ => .bad
noncomputable def sliceOf (ov : V) (l h s : Option Int) : Option V := onBISL (fun _ => none) (fun _ => none)
  (fun x => match s with
    | none => cond (Nat.ble x.length lim) (some (.str (Txt.slice x l h))) none
    | some k => cond (Nat.ble x.length lim && decide (k = -1)) (some (.str ⟨((Builtin.Str.strSliceIndices l h k x.length).filterMap (x.cps[·]?)).toArray⟩)) none)
  (fun xs => cond (Nat.ble xs.length lim && decide (s ≠ some 0)) (some (.list (pickL xs l h s))) none) ov
noncomputable def isSlice : Expr → Bool
  | .Slice .. => true
  | _ => false
noncomputable def exIx (σ : S) (o i : Expr) : Out A := match placeOf g cx σ o with
  | some p => noX <| (ih.ex cx σ i).bindV fun iv σ₁ => optB ((at? σ₁.mem p.2.1).bind thaw) fun v => Out.of ((getIx v iv).map A.val) σ₁
  | none => (noX (ih.ex cx σ o)).bindV fun ov σ₁ => (ih.ex cx σ₁ i).bindV fun iv σ₂ => Out.of ((getIx ov iv).map A.val) σ₂
noncomputable def exSub (σ : S) (o i : Expr) : Out A := match i with
  | .Slice lo hi st _ => noX <| (ih.ex cx σ o).bindV fun ov σ₁ => (exPart ih cx σ₁ lo).bind fun l σ₂ => (exPart ih cx σ₂ hi).bind fun h σ₃ => (exPart ih cx σ₃ st).bind fun s σ₄ =>
    Out.of ((sliceOf ov l h s).map A.val) σ₄
  | i => exIx g ih cx σ o i
noncomputable def exComp (σ : S) (elt : Expr) (c : Comprehension) (scope : Scope) : Out V := cond (!(Nat.beq c.is_async.natAbs 0 && scopeOk scope cx)) .bad <|
  (src g ih cx σ c.target c.iter).bind fun xs σ₁ =>
    back σ₁.loc σ₁.mem.length ((turns ih (inner scope cx σ₁.mem.length) c.target c.ifs elt ⟨[], σ₁.mem ++ newCells scope⟩ xs).bind fun ys σ₂ =>
      cond (Nat.ble ys.length lim) (.ok (.list ys) σ₂) .bad)
noncomputable def exCompD (σ : S) (k v : Expr) (c : Comprehension) (scope : Scope) : Out V := cond (!(Nat.beq c.is_async.natAbs 0 && scopeOk scope cx)) .bad <|
  (src g ih cx σ c.target c.iter).bind fun xs σ₁ => cond c.ifs.isEmpty
    (back σ₁.loc σ₁.mem.length (turnsD ih (inner scope cx σ₁.mem.length) c.target k v ⟨[], σ₁.mem ++ newCells scope⟩ xs [] [])) .bad
noncomputable def exCmp (σ : S) (l : Expr) (op : CmpOp) (r : Expr) : Out Bool := cond (isSetE r) .bad <|
  (ih.ex cx σ l).bindV fun a σ₁ => match (placeOf g cx σ₁ r).bind fun p => thaw p.2.2 with
    | some v => Out.of (cmp op a v) σ₁
    | none => (ih.ex cx σ₁ r).bindV fun b σ₂ => Out.of (cmp op a b) σ₂
noncomputable def exPlain (σ : S) (e : Expr) : Out A := match e with
  | .Constant c _ _ => Out.of ((constOf c).map A.val) σ
  | .Name x _ => readName g cx σ x
  | .UnaryOp op x _ => cond (isNeg op) (optB ((constE x).bind intC) fun i => .ok (.val (.int (-i))) σ) .bad
  | .IfExp t a b _ => (ih.tr cx σ t).bind fun c σ₁ => match c with
    | true => ih.ex cx σ₁ a
    | false => ih.ex cx σ₁ b
  | .Compare l ops rs _ => optB (one ops) fun op => optB (one rs) fun r => (exCmp g ih cx σ l op r).bind fun b σ₁ => .ok (.val (.bool b)) σ₁
  | .List es p => (exF ih cx σ (.List es p)).bind fun m σ₁ => Out.of ((thaw m).map A.val) σ₁
  | .Tuple es _ _ => (exVs ih cx σ es).bind fun vs σ₁ => cond (Nat.ble vs.length lim) (.ok (.val (.tup vs)) σ₁) .bad
  | .ListComp elt cs scope _ => optB (one cs) fun c => (exComp g ih cx σ elt c scope).bind fun v σ₁ => .ok (.val v) σ₁
  | .DictComp k v cs scope _ => optB (one cs) fun c => (exCompD g ih cx σ k v c scope).bind fun v σ₁ => .ok (.val v) σ₁
  | .BinOp l op r _ => (ih.ex cx σ l).bindV fun a σ₁ => (ih.ex cx σ₁ r).bindV fun b σ₂ => Out.of ((binop op a b).map A.val) σ₂
  | _ => .bad
noncomputable def exStep (σ : S) (e : Expr) : Out A := match e with
  | .Subscript o i _ => exSub g ih cx σ o i
  | .Call f es ks pos => cond ks.isEmpty (exCall g ih cx σ f es pos) .bad
  | e => noX (exPlain g ih cx σ e)
noncomputable def allT (σ : S) : List Expr → Out Bool
  | [] => .ok true σ
  | t :: ts => (ih.tr cx σ t).bind fun b σ₁ => match b with
    | true => allT σ₁ ts
    | false => .ok false σ₁
noncomputable def trStep (σ : S) (e : Expr) : Out Bool := match e with
  | .UnaryOp op x _ => cond (isNotO op) ((ih.tr cx σ x).bind fun b σ₁ => .ok (!b) σ₁) .bad
  | .BoolOp op es _ => cond (isAndO op) (allT ih cx σ es) .bad
  | .Compare l ops rs _ => optB (one ops) fun op => optB (one rs) fun r => exCmp g ih cx σ l op r
  | .Name x p => (ih.ex cx σ (.Name x p)).bindV fun v σ₁ => Out.of (truth v) σ₁
  | .Call f as ks p => (ih.ex cx σ (.Call f as ks p)).bindV fun v σ₁ => Out.of (truth v) σ₁
  | .BinOp l op r p => (ih.ex cx σ (.BinOp l op r p)).bindV fun v σ₁ => Out.of (truth v) σ₁
  | .Constant c _ _ => Out.of (boolC c) σ
  | _ => .bad
noncomputable def forGo (t : Expr) (body orelse : List Stmt) : S → List V → Out Fl
  | σ, [] => ih.sts cx σ orelse
  | σ, v :: vs => (assign cx σ t v).bind fun _ σ₁ => (ih.sts cx σ₁ body).bind fun f σ₂ => match f with
    | .nxt => forGo t body orelse σ₂ vs
    | .cnt => forGo t body orelse σ₂ vs
    | .brk => .ok .nxt σ₂
    | .ret v => .ok (.ret v) σ₂
noncomputable def whileGo (t : Expr) (body : List Stmt) : Nat → S → Out Fl
  | 0, _ => .bad
  | n + 1, σ => (noX (ih.tr cx σ t)).bind fun b σ₁ => match b with
    | true => (ih.sts cx σ₁ body).bind fun f σ₂ => match f with
      | .nxt => whileGo t body n σ₂
      | .cnt => whileGo t body n σ₂
      | .brk => .ok .nxt σ₂
      | .ret v => .ok (.ret v) σ₂
    | false => .ok .nxt σ₁
noncomputable def setIx (m : M) (i v : V) : Option M := (lstOf m).bind fun xs => onI (natOf fun k => cond (Nat.blt k xs.length && Nat.ble xs.length lim) (some (.lst (xs.set k v))) none) i
noncomputable def dctOf : M → Option (List V × List V)
  | .dct ks vs => some (ks, vs)
  | _ => none
noncomputable def setM (m : M) (i v : V) : Option M := match dctOf m with
  | some p => onS (fun k => cond (Nat.ble p.1.length 1000) (some (.dct (putV p.1 p.2 (.str k) v).1 (putV p.1 p.2 (.str k) v).2)) none) i
  | none => setIx m i v
noncomputable def cutL (xs : List V) : Int → Option M
  | .ofNat n => cond (Nat.beq n 0 && !xs.isEmpty && Nat.ble xs.length lim) (some (.lst xs.tail)) none
  | .negSucc n => cond (Nat.beq n 0 && !xs.isEmpty && Nat.ble xs.length lim) (some (.lst xs.dropLast)) none
noncomputable def delIx (m : M) (i : V) : Option M := (lstOf m).bind fun xs => onI (cutL xs) i
noncomputable def methCall : Expr → Option ((Expr × Str × Pos) × Expr × Pos)
  | .Call f es ks pos => (attrE f).bind fun q => cond ks.isEmpty ((one es).map fun e => (q, e, pos)) none
  | _ => none
noncomputable def putMt (xs : List V) (v : V) (m : Mt) : Option (List V) := match m with
  | .append => cond (Nat.ble xs.length lim) (some (xs ++ [v])) none
  | .extend => onL (fun ys => cond (Nat.ble (xs.length + ys.length) lim) (some (xs ++ ys)) none) v
  | _ => none
noncomputable def exprStep (σ : S) (e : Expr) : Out Fl := optB (methCall e) fun q => optB (lstAt g cx σ q.1.1) fun p => cond (!(methOk q.1.1 [q.2.1] q.1.2.2 q.2.2 && !starred q.2.1)) .bad <| (ih.ex cx σ q.2.1).bindV fun v σ₁ =>
  optB ((at? σ₁.mem p.1).bind lstOf) fun xs => optB ((mtOf q.1.2.1).bind (putMt xs v)) fun ys => .ok .nxt ⟨σ₁.loc, σ₁.mem.set p.1 (some (.lst ys))⟩
noncomputable def swapOk (ts es : List Expr) : Bool := match two ts with
  | some tu => match nameP tu.1 with
    | some x => match nameP tu.2 with
      | some y => Nat.beq es.length 2 && isLocK (lkN cx.scope.names x.1) && isLocK (lkN cx.scope.names y.1) && Nat.beq y.2.line x.2.line && !nEq x.1 y.1 && !es.any starred && !es.all (foldedForSure 8) && !es.all (constantsAlone 8)
      | none => false
    | none => false
  | none => false
noncomputable def isCompE : Expr → Bool
  | .ListComp .. => true
  | .SetComp .. => true
  | .DictComp .. => true
  | _ => false
noncomputable def nameGo (σ : S) (x : Str) (e : Expr) : Out Fl := cond (isCompE e) .bad <| match isF e with
  | true => noX <| (exF ih cx σ e).bind fun m σ₁ => (store cx ⟨σ₁.loc, σ₁.mem ++ [some m]⟩ x (.plc σ₁.mem.length)).bind fun _ σ₂ => .ok .nxt σ₂
  | false => (ih.ex cx σ e).bind fun a σ₁ => (store cx σ₁ x a).bind fun _ σ₂ => .ok .nxt σ₂
noncomputable def assignName (σ : S) (x : Str) (e : Expr) : Out Fl := match e with
  | .ListComp elt cs scope _ => noX <| optB (one cs) fun c => (exComp g ih cx σ elt c scope).bind fun v σ₁ => (store cx σ₁ x (.val v)).bind fun _ σ₂ => .ok .nxt σ₂
  | .DictComp kx vx cs scope _ => noX <| optB (one cs) fun c => (exCompD g ih cx σ kx vx c scope).bind fun v σ₁ => (store cx σ₁ x (.val v)).bind fun _ σ₂ => .ok .nxt σ₂
  | e => nameGo ih cx σ x e
noncomputable def assignStep (σ : S) (ts : List Expr) (e : Expr) : Out Fl := optB (one ts) fun t => match t with
  | .Name x _ => assignName g ih cx σ x e
  | .Tuple ts k p => noX <| match tupE e with
    | some es => cond (!swapOk cx ts es) .bad <| (ih.ex cx σ e).bindV fun v σ₁ => optB (tupOf v) fun vs => (storeAll cx σ₁ ts.reverse vs.reverse).bind fun _ σ₂ => .ok .nxt σ₂
    | none => (ih.ex cx σ e).bindV fun v σ₁ => (assign cx σ₁ (.Tuple ts k p) v).bind fun _ σ₂ => .ok .nxt σ₂
  | .Subscript o i _ => noX <| (ih.ex cx σ e).bindV fun v σ₁ => optB (placeOf g cx σ₁ o) fun p => (ih.ex cx σ₁ i).bindV fun iv σ₂ => optB (at? σ₂.mem p.2.1) fun m => optB (setM m iv v) fun m' =>
    .ok .nxt ⟨σ₂.loc, σ₂.mem.set p.2.1 (some m')⟩
  | _ => .bad
noncomputable def augOk : Operator → Bool
  | .Add => true
  | .Sub => true
  | .BitOr => true
  | .BitXor => true
  | .LShift => true
  | _ => false
noncomputable def augStep (σ : S) (t : Expr) (op : Operator) (e : Expr) : Out Fl := cond (!augOk op) .bad <| match t with
  | .Name x _ => cond (!(isLocK (lkN cx.scope.names x) || isCellK (lkN cx.scope.names x))) .bad <| optB ((readRaw g cx σ x).bind valOf) fun a => (ih.ex cx σ e).bindV fun b σ₁ => cond (isListV a) .bad <|
    optB (binop op a b) fun v => (store cx σ₁ x (.val v)).bind fun _ σ₂ => .ok .nxt σ₂
  | .Subscript o i _ => cond (isSlice i) .bad <| noX <| optB (lstAt g cx σ o) fun p => (ih.ex cx σ i).bindV fun iv σ₁ => optB ((at? σ₁.mem p.1).bind lstOf) fun xs => optB ((getIx (.list xs) iv).bind (onI some)) fun a =>
    (ih.ex cx σ₁ e).bindV fun b σ₂ => optB ((at? σ₂.mem p.1).bind lstOf) fun ys => optB (binop op (.int a) b) fun v => optB (setIx (.lst ys) iv v) fun m' => .ok .nxt ⟨σ₂.loc, σ₂.mem.set p.1 (some m')⟩
  | _ => .bad
noncomputable def retOf? : Stmt → Option (Expr × Pos)
  | .Return e p => e.map fun e => (e, p)
  | _ => none
noncomputable def handOf : ExceptHandler → Option (Expr × Stmt)
  | .ExceptHandler t n b _ => cond n.isNone (t.bind fun t => (one b).map fun s => (t, s)) none
noncomputable def tryOf (hs : List ExceptHandler) (oe fb : List Stmt) : Option (Str × Str × Str) := cond (oe.isEmpty && fb.isEmpty) ((one hs).bind fun h => (handOf h).bind fun p => (nameE p.1).bind fun c =>
  (retOf? p.2).bind fun q => (tupE q.1).bind fun es => (two es).bind fun u => (nameE u.1).bind fun x => (nameE u.2).map fun y => (c, x, y)) none
noncomputable def tryGo (σ : S) (body : List Stmt) (q : Str × Str × Str) : Out Fl := cond ((((readRaw g cx σ q.1).bind valOf).bind bfOf?).any isStopB) (onX (ih.sts cx σ body) fun σ₁ =>
  cond (isCellK (lkN cx.scope.names q.1) || isLocK (lkN cx.scope.names q.1)) .bad <| (readName g cx σ₁ q.2.1).bindV fun a σ₂ => (readName g cx σ₂ q.2.2).bindV fun b σ₃ => .ok (.ret (.tup [a, b])) σ₃) .bad
noncomputable def delGo (σ : S) (oi : Expr × Expr) : Out Fl := optB (placeOf g cx σ oi.1) fun p => (ih.ex cx σ oi.2).bindV fun iv σ₁ => optB (at? σ₁.mem p.2.1) fun m => optB (delIx m iv) fun m' => .ok .nxt ⟨σ₁.loc, σ₁.mem.set p.2.1 (some m')⟩
noncomputable def stStep (σ : S) (s : Stmt) : Out Fl := match s with
  | .Expr e _ => noX <| exprStep g ih cx σ e
  | .Break _ => .ok .brk σ
  | .Return r _ => noX <| optB r fun e => (ih.ex cx σ e).bindV fun v σ₁ => .ok (.ret v) σ₁
  | .Assign ts e _ => assignStep g ih cx σ ts e
  | .AugAssign t op e _ => augStep g ih cx σ t op e
  | .Delete ts _ => noX <| optB ((one ts).bind subE) fun oi => delGo g ih cx σ oi
  | .If t a b _ => noX <| (ih.tr cx σ t).bind fun c σ₁ => match c with
    | true => ih.sts cx σ₁ a
    | false => ih.sts cx σ₁ b
  | .While t body orelse _ => cond orelse.isEmpty (whileGo ih cx t body 100 σ) .bad
  | .For t it body orelse _ => noX <| (src g ih cx σ t it).bind fun xs σ₁ => forGo ih cx t body orelse σ₁ xs
  | .Assert t m _ => noX <| cond m.isNone ((ih.tr cx σ t).bind fun c σ₁ => cond c (.ok .nxt σ₁) .bad) .bad
  | .Try body hs oe fb _ => optB (tryOf hs oe fb) fun q => tryGo g ih cx σ body q
  | _ => .bad
noncomputable def stsStep : S → List Stmt → Out Fl
  | σ, [] => .ok .nxt σ
  | σ, s :: r => (stStep g ih cx σ s).bind fun f σ₁ => match f with
    | .nxt => stsStep σ₁ r
    | f => .ok f σ₁
end
noncomputable def bindLoc (scope : Scope) : List Str → List A → List (Str × A)
  | [], _ => []
  | _ :: _, [] => []
  | x :: xs, a :: as => cond (isLocK (lkN scope.names x)) ((x, a) :: bindLoc scope xs as) (bindLoc scope xs as)
noncomputable def bindCells (scope : Scope) (xs : List Str) (as : List A) : List (Option M) := (cellNames scope.names).map fun n => some (.cell (lkN (xs.zip as) n))
noncomputable def ending {α : Type} (n : Nat) (f : Fl → Option α) : Out Fl → Out α
  | .ok x σ => optB (f x) fun a => cond (closed n (σ.mem.take n)) (.ok a ⟨[], σ.mem.take n⟩) .bad
  | .exc σ => cond (closed n (σ.mem.take n)) (.exc ⟨[], σ.mem.take n⟩) .bad
  | .bad => .bad
noncomputable def retOf : Fl → Option V
  | .ret v => some v
  | .nxt => some .none
  | _ => none
noncomputable def callStep (g : Gl) (ih : Ih) (mem : List (Option M)) (nm : Str) (as : List A) : Out V := optB (g.fns nm) fun f => cond (Nat.beq f.params.length as.length)
    (ending mem.length retOf (ih.sts ⟨f.scope, (cellNames f.scope.names).zipIdx mem.length⟩ ⟨bindLoc f.scope f.params as, mem ++ bindCells f.scope f.params as⟩ f.body)) .bad
noncomputable def ihBad : Ih := ⟨fun _ _ _ => .bad, fun _ _ _ => .bad, fun _ _ _ => .bad, fun _ _ _ => .bad⟩
noncomputable def ihStep (g : Gl) (ih : Ih) : Ih := ⟨exStep g ih, trStep g ih, stsStep g ih, callStep g ih⟩
noncomputable def run (g : Gl) : Nat → Ih
  | 0 => ihBad
  | n + 1 => ihStep g (run g n)
theorem not_tt {b : Bool} (h : (!b) = true) : b = false := by cases b; rfl; cases h
theorem exSub_ix {g : Gl} {ih : Ih} {cx : Cx} {σ : S} {o i : Expr} (h : isSlice i = false) : exSub g ih cx σ o i = exIx g ih cx σ o i := by
  rcases i with ⟨⟩ <;> first | rfl | cases h
end

section
open PySem PySem.Calls PyProof.Rows PySem.W
set_option backward.match.sparseCases false
set_option maxRecDepth 100000
structure Wd where
  prog : Program
  w : World
  FA : Str → Option Addr
  fs : List Env := []
noncomputable def bfVal : Bf → Value
  | .len => .builtin "len" | .sum => .builtin "sum" | .sorted => .builtin "sorted" | .hex => .builtin "hex" | .iter => .builtin "iter" | .next => .builtin "next"
  | .range => .type "range" | .list => .type "list" | .set => .type "set" | .enumerate => .type "enumerate"
  | .stop => .type "StopIteration"
noncomputable def lkW : List V → List Value → V → Option Value
  | k :: ks, v :: vs, x => cond (keyEq x k) (some v) (lkW ks vs x)
  | [], _, _ => none
  | _ :: _, [], _ => none
mutual
inductive RV (W : Wd) (B : Heap) : V → Value → Prop
  | none : RV W B .none .none
  | bool {b} : RV W B (.bool b) (.bool b)
  | int {i t} : RV W B (.int i) (.int i t)
  | str {x t} : RV W B (.str x) (.str x t)
  | list {a o items n xs} : B.get? a = some o → o.cls = .type "list" → o.dict = .none → o.data = .seq items n → RVs W B xs items.toList → RV W B (.list xs) (.ref a)
  | tup {a items xs} : B.IsTuple a items → RVs W B xs items.toList → RV W B (.tup xs) (.ref a)
  | dictI {a f ks vs ws} : B.MapOf (intKind W.prog W.w) a f → a ≠ sysModules → RVs W B vs ws → (∀ k, f k = lkW ks ws (.int k)) → RV W B (.dict false ks vs) (.ref a)
  | dictS {a f ks vs ws} : B.MapOf (strKind W.prog W.w) a f → a ≠ sysModules → RVs W B vs ws → (∀ k, f k = lkW ks ws (.str k)) → RV W B (.dict true ks vs) (.ref a)
  | range {a n t u v} : IsRange B a 0 n 1 t u v → RV W B (.range n) (.ref a)
  | fn {x a} : W.FA x = some a → RV W B (.fn x) (.ref a)
  | bf {b} : RV W B (.bf b) (bfVal b)
inductive RVs (W : Wd) (B : Heap) : List V → List Value → Prop
  | nil : RVs W B [] []
  | cons {v x vs xs} : RV W B v x → RVs W B vs xs → RVs W B (v :: vs) (x :: xs)
end
noncomputable def Sub (h h' : Heap) : Prop := ∀ b o, h.get? b = some o → h'.get? b = some o
theorem Sub.refl (h : Heap) : Sub h h := fun _ _ e => e
theorem Sub.trans {a b c : Heap} (x : Sub a b) (y : Sub b c) : Sub a c := fun _ _ e => y _ _ (x _ _ e)
theorem Heap.MapOf.sub {prog : Program} {w : World} {K : Type} [DecidableEq K] {knd : KeyKind prog w K} {h h' : Heap} {a : Addr} {f} (m : h.MapOf knd a f) (s : Sub h h') : h'.MapOf knd a f := by
  obtain ⟨o, es, ep, ho, r⟩ := m; exact ⟨o, es, ep, s _ _ ho, r⟩
theorem RV.mono {W : Wd} {B B' : Heap} (s : Sub B B') {v x} (h : RV W B v x) : RV W B' v x :=
  RV.rec (motive_1 := fun v x _ => RV W B' v x) (motive_2 := fun vs xs _ => RVs W B' vs xs) .none .bool .int .str (fun a b c d _ e => .list (s _ _ a) b c d e)
    (fun a _ c => by obtain ⟨o, a, b⟩ := a; exact .tup ⟨o, s _ _ a, b⟩ c) (fun a b _ d e => .dictI (Heap.MapOf.sub a s) b e d) (fun a b _ d e => .dictS (Heap.MapOf.sub a s) b e d) (fun a => .range (s _ _ a)) (fun a => .fn a) .bf .nil (fun _ _ a b => .cons a b) h
theorem RVs.mono {W : Wd} {B B' : Heap} (s : Sub B B') {v x} (h : RVs W B v x) : RVs W B' v x := by
  induction v generalizing x with
  | nil => rw [show x = [] from by cases h; rfl]; exact .nil
  | cons v vs ih =>
    obtain ⟨y, ys, rfl, h1, h2⟩ : ∃ y ys, x = y :: ys ∧ RV W B v y ∧ RVs W B vs ys := by cases h; exact ⟨_, _, rfl, ‹_›, ‹_›⟩
    exact .cons (h1.mono s) (ih h2)
inductive RA (W : Wd) (B : Heap) (ρ : List Addr) : A → Value → Prop
  | val {v x} : RV W B v x → RA W B ρ (.val v) x
  | plc {i a} : ρ[i]? = some a → RA W B ρ (.plc i) (.ref a)
theorem RA.mono {W : Wd} {B B' : Heap} {ρ ρ' : List Addr} (s : Sub B B') (r : ∃ t, ρ' = ρ ++ t) {a x} : RA W B ρ a x → RA W B' ρ' a x
  | .val h => .val (h.mono s)
  | .plc h => by
    obtain ⟨t, rfl⟩ := r
    exact .plc (by rw [List.getElem?_append_left (by have := List.getElem?_eq_some_iff.mp h; exact this.1)]; exact h)
inductive LstOk (W : Wd) (B h : Heap) (a : Addr) (xs : List V) : Prop
  | mk (items : Array Value) (h1 : h.PlainList a items) (h2 : RVs W B xs items.toList)
inductive DctOk (W : Wd) (B h : Heap) (a : Addr) (ks vs : List V) : Prop
  | mk (f : Str → Option Value) (ws : List Value) (n : Nat) (h1 : h.MapOf (strKind W.prog W.w) a f) (h2 : a ≠ sysModules) (h3 : h.DictLe a n) (h4 : n ≤ ks.length) (h5 : RVs W B vs ws) (h6 : ∀ k, f k = lkW ks ws (.str k)) (h7 : ks.length = vs.length) (h8 : ∀ k ∈ ks, ∃ x, k = .str x)
inductive ItrOk (W : Wd) (B h : Heap) (a : Addr) (xs : List V) : Prop
  | mk (ax : Addr) (pos : Nat) (items : Array Value) (ys : List V) (h1 : h.IsListIter a ax pos) (h2 : B.IsList ax items) (h3 : RVs W B ys items.toList) (h4 : ys.drop pos = xs) (h5 : ax ≠ a)
inductive CelOk (W : Wd) (B : Heap) (ρ : List Addr) (h : Heap) (a : Addr) (c : A) : Prop
  | mk (x : Value) (h1 : h.IsCell a (some x)) (h2 : RA W B ρ c x)
noncomputable def RM (W : Wd) (B : Heap) (ρ : List Addr) (h : Heap) (a : Addr) : M → Prop
  | .lst xs => LstOk W B h a xs
  | .dct ks vs => DctOk W B h a ks vs
  | .itr xs => ItrOk W B h a xs
  | .cell none => h.IsCell a none
  | .cell (some c) => CelOk W B ρ h a c
inductive Held (W : Wd) (B : Heap) (ρ : List Addr) (h : Heap) (i : Nat) (m : M) : Prop
  | mk (a : Addr) (h1 : ρ[i]? = some a) (h2 : B.get? a = none) (h3 : RM W B ρ h a m)
noncomputable def Kp (o o' : Obj) : Prop := o' = o ∨ (o.cls = .type "frame" ∧ ∃ sl, o' = { o with slots := sl })
theorem Kp.refl (o : Obj) : Kp o o := .inl rfl
theorem Kp.trans {a b c : Obj} (x : Kp a b) (y : Kp b c) : Kp a c := by
  rcases x with rfl | ⟨hc, sl, rfl⟩
  · exact y
  · rcases y with rfl | ⟨_, sl', rfl⟩
    · exact .inr ⟨hc, sl, rfl⟩
    · exact .inr ⟨hc, sl', rfl⟩
theorem kx {L : Addr} {ρ : List Addr} {h h' : Heap} (k : ∀ b o, b ≠ L → b ∉ ρ → h.get? b = some o → h'.get? b = some o) : ∀ b o, b ≠ L → b ∉ ρ → h.get? b = some o → ∃ o', h'.get? b = some o' ∧ Kp o o' :=
  fun b o h1 h2 h3 => ⟨o, k b o h1 h2 h3, .refl o⟩
theorem ns_kp {h h' : Heap} {a : Addr} {m} (hn : h.Ns a m) (k : ∀ o, h.get? a = some o → ∃ o', h'.get? a = some o' ∧ Kp o o') : h'.Ns a m := by
  obtain ⟨o, es, ep, ho, hd, r⟩ := hn
  obtain ⟨o', ho', hk⟩ := k o ho
  refine ⟨o', es, ep, ho', ?_, r⟩
  rcases hk with rfl | ⟨_, sl, rfl⟩
  · exact hd
  · exact hd
structure Ext (L : Addr) (B : Heap) (ρ : List Addr) (s : Shared) (B' : Heap) (ρ' : List Addr) (s' : Shared) : Prop where
  sub : Sub B B'
  new : ∀ a o, B'.get? a = some o → B.get? a = none → a ∈ ρ ∨ s.heap.objs.size ≤ a
  rho : ∃ t, ρ' = ρ ++ t ∧ ∀ a ∈ t, s.heap.objs.size ≤ a
  keep : ∀ b o, b ≠ L → b ∉ ρ → s.heap.get? b = some o → ∃ o', s'.heap.get? b = some o' ∧ Kp o o'
  size : s.heap.objs.size ≤ s'.heap.objs.size
  rest : s'.gens = s.gens ∧ s'.os = s.os
theorem Ext.refl (L B ρ s) : Ext L B ρ s B ρ s :=
  ⟨Sub.refl _, fun a o h n => (by rw [h] at n; cases n), ⟨[], by simp, by simp⟩, kx fun _ _ _ _ e => e, Nat.le_refl _, rfl, rfl⟩
theorem Ext.trans {L B ρ s B₁ ρ₁ s₁ B₂ ρ₂ s₂} (x : Ext L B ρ s B₁ ρ₁ s₁) (y : Ext L B₁ ρ₁ s₁ B₂ ρ₂ s₂) : Ext L B ρ s B₂ ρ₂ s₂ := by
  obtain ⟨t, ht, hn⟩ := x.rho
  obtain ⟨u, hu, hm⟩ := y.rho
  refine ⟨x.sub.trans y.sub, fun a o h n => ?_, ⟨t ++ u, by rw [hu, ht, List.append_assoc], fun a ha => ?_⟩, fun b o hb hr e => ?_, Nat.le_trans x.size y.size, ?_⟩
  · cases q : B₁.get? a with
    | some o' => exact x.new a o' q n
    | none =>
      rcases y.new a o h q with z | z
      · rw [ht] at z
        rcases List.mem_append.mp z with z | z
        · exact .inl z
        · exact .inr (hn a z)
      · exact .inr (Nat.le_trans x.size z)
  · rcases List.mem_append.mp ha with z | z
    · exact hn a z
    · exact Nat.le_trans x.size (hm a z)
  · obtain ⟨o', ho', hk⟩ := x.keep b o hb hr e
    refine (fun (⟨o'', h1, h2⟩ : ∃ o'', s₂.heap.get? b = some o'' ∧ Kp o' o'') => ⟨o'', h1, hk.trans h2⟩) (y.keep b o' hb (fun hm' => ?_) ho')
    rw [ht] at hm'
    rcases List.mem_append.mp hm' with z | z
    · exact hr z
    · exact Nat.lt_irrefl _ (Nat.lt_of_lt_of_le (Heap.lt_size e) (hn b z))
  · exact ⟨y.rest.1.trans x.rest.1, y.rest.2.trans x.rest.2⟩
theorem Ext.kept {L B ρ s B' ρ' s'} (x : Ext L B ρ s B' ρ' s') {b : Addr} {o : Obj} (hc : o.cls ≠ .type "frame") (h1 : b ≠ L) (h2 : b ∉ ρ) (h3 : s.heap.get? b = some o) : s'.heap.get? b = some o := by
  obtain ⟨o', ho', hk⟩ := x.keep b o h1 h2 h3
  rcases hk with rfl | ⟨hf, _⟩
  · exact ho'
  · exact absurd hf hc
theorem Ext.pre {L B ρ s B' ρ' s'} (x : Ext L B ρ s B' ρ' s') : ∃ t, ρ' = ρ ++ t := let ⟨t, h, _⟩ := x.rho; ⟨t, h⟩
noncomputable def StkOk (fs : List Env) (B : Heap) (ρ : List Addr) (h : Heap) : Prop :=
  ∀ e ∈ fs, e.scope.kind ≠ .module ∧ ∃ F o, e.frame = some F ∧ h.get? F = some o ∧ o.cls = .type "frame" ∧ (∃ es ep, o.data = .dict es ep) ∧ B.get? F = none ∧ F ∉ ρ
theorem StkOk.at {fs B ρ h} (X : StkOk fs B ρ h) {e : Env} (he : e ∈ fs) {F : Addr} (hF : e.frame = some F) : F < h.objs.size ∧ B.get? F = none ∧ F ∉ ρ := by
  obtain ⟨_, F', o, h1, h2, _, _, h5, h6⟩ := X e he
  rw [hF] at h1; cases h1
  exact ⟨Heap.lt_size h2, h5, h6⟩
theorem StkOk.step {fs B ρ h B' ρ' h'} (X : StkOk fs B ρ h) (k : ∀ F o, F < h.objs.size → B.get? F = none → F ∉ ρ → (∃ e ∈ fs, e.frame = some F) → h.get? F = some o → o.cls = .type "frame" → (∃ es ep, o.data = .dict es ep) →
    (∃ o', h'.get? F = some o' ∧ o'.cls = .type "frame" ∧ ∃ es ep, o'.data = .dict es ep) ∧ B'.get? F = none ∧ F ∉ ρ') : StkOk fs B' ρ' h' := fun e he => by
  obtain ⟨h0, F, o, h1, h2, h3, h4, h5, h6⟩ := X e he
  obtain ⟨⟨o', k1, k2, k3⟩, k4, k5⟩ := k F o (Heap.lt_size h2) h5 h6 ⟨e, he, h1⟩ h2 h3 h4
  exact ⟨h0, F, o', h1, k1, k2, k3, k4, k5⟩
theorem StkOk.same {fs B ρ h B' ρ' h'} (X : StkOk fs B ρ h) (k : ∀ F o, F < h.objs.size → B.get? F = none → F ∉ ρ → (∃ e ∈ fs, e.frame = some F) → h.get? F = some o → h'.get? F = some o ∧ B'.get? F = none ∧ F ∉ ρ') : StkOk fs B' ρ' h' :=
  X.step fun F o a b c d e f g => let ⟨k1, k2, k3⟩ := k F o a b c d e; ⟨⟨o, k1, f, g⟩, k2, k3⟩
structure EnvOk (env : Env) (cx : Cx) (ρ : List Addr) : Prop where
  scope : env.scope = cx.scope
  kind : cx.scope.kind = .function
  globals : env.globals = mainGlobals
  builtins : env.builtins = builtinsNs
  cells : ∀ x i, lkN cx.scope.names x = some .cell → lkN cx.cells x = some i → ∃ a, env.cells.lookup x = some a ∧ ρ[i]? = some a
structure Sta (W : Wd) (B₀ B : Heap) (ρ : List Addr) (env : Env) (cx : Cx) (σ : S) (s : Shared) : Prop where
  stays : Sub B s.heap
  base : Sub B₀ B
  ok : EnvOk env cx ρ
  locs : ∃ m, s.heap.Ns env.locals m ∧ ∀ x a, lkN σ.loc x = some a → ∃ v, m x = some v ∧ RA W B ρ a v
  L : B.get? env.locals = none ∧ env.locals ∉ ρ
  len : σ.mem.length = ρ.length
  nodup : ρ.Nodup
  lt : ∀ a ∈ ρ, a < s.heap.objs.size
  mem : ∀ (i : Nat) (m : M), σ.mem[i]? = some (some m) → Held W B ρ s.heap i m
  fr : ∀ F, env.frame = some F → F < s.heap.objs.size ∧ (F = env.locals → ∃ o, s.heap.get? F = some o ∧ o.cls = .type "frame")
  stk : StkOk W.fs B ρ s.heap
theorem Sta.fr_of {W B₀ B ρ env cx σ s} (X : Sta W B₀ B ρ env cx σ s) {h' : Heap} (hz : s.heap.objs.size ≤ h'.objs.size) (k : ∀ o, s.heap.get? env.locals = some o → ∃ o', h'.get? env.locals = some o' ∧ o'.cls = o.cls) :
    ∀ F, env.frame = some F → F < h'.objs.size ∧ (F = env.locals → ∃ o, h'.get? F = some o ∧ o.cls = .type "frame") := fun F hF => by
  obtain ⟨h1, h2⟩ := X.fr F hF
  refine ⟨Nat.lt_of_lt_of_le h1 hz, fun e => ?_⟩
  obtain ⟨o, ho, hc⟩ := h2 e
  rw [e] at ho
  obtain ⟨o', ho', hc'⟩ := k o ho
  exact ⟨o', e ▸ ho', hc'.trans hc⟩
theorem Kp.cls {a b : Obj} (x : Kp a b) : b.cls = a.cls := by
  rcases x with rfl | ⟨_, sl, rfl⟩ <;> rfl
noncomputable def Room (W : Wd) (A : Around) (n : Nat) : Prop := A.handled = none ∧ A.depth + n < 900 ∧ A.units + 10 * n < 9000 ∧ A.frames = some W.fs
inductive Good {β : Type} (W : Wd) (B₀ : Heap) (env : Env) (cx : Cx) (B : Heap) (ρ : List Addr) (s : Shared) (σ' : S) (R : Heap → List Addr → β → Prop) (x : β) (s' : Shared) : Prop
  | mk (B' : Heap) (ρ' : List Addr) (h1 : Ext env.locals B ρ s B' ρ' s') (h2 : Sta W B₀ B' ρ' env cx σ' s') (h3 : R B' ρ' x)
noncomputable abbrev No : Value → Shared → Prop := fun _ _ => False
theorem Good.ext {β : Type} {W B₀ env cx B ρ s B₁ ρ₁ s₁ σ'} {R : Heap → List Addr → β → Prop} {x : β} {s'} (e : Ext env.locals B ρ s B₁ ρ₁ s₁)
    (h : Good W B₀ env cx B₁ ρ₁ s₁ σ' R x s') : Good W B₀ env cx B ρ s σ' R x s' :=
  by obtain ⟨B', ρ', a, b, c⟩ := h; exact ⟨B', ρ', e.trans a, b, c⟩
section
variable {W : Wd} {B : Heap} {ρ : List Addr}
theorem RV.none_inv {x : Value} (h : RV W B .none x) : x = .none := by cases h; rfl
theorem RV.bool_inv {b : Bool} {x : Value} (h : RV W B (.bool b) x) : x = .bool b := by cases h; rfl
theorem RV.int_inv {i : Int} {x : Value} (h : RV W B (.int i) x) : ∃ t, x = .int i t := by cases h; exact ⟨_, rfl⟩
theorem RV.str_inv {i : Str} {x : Value} (h : RV W B (.str i) x) : ∃ t, x = .str i t := by cases h; exact ⟨_, rfl⟩
theorem RV.list_inv {xs : List V} {x : Value} (h : RV W B (.list xs) x) : ∃ a o items n, x = .ref a ∧ B.get? a = some o ∧ o.cls = .type "list" ∧ o.dict = .none ∧ o.data = .seq items n ∧ RVs W B xs items.toList := by cases h; exact ⟨_, _, _, _, rfl, ‹_›, ‹_›, ‹_›, ‹_›, ‹_›⟩
theorem RV.tup_inv {xs : List V} {x : Value} (h : RV W B (.tup xs) x) : ∃ a items, x = .ref a ∧ B.IsTuple a items ∧ RVs W B xs items.toList := by cases h; exact ⟨_, _, rfl, ‹_›, ‹_›⟩
theorem RV.dictI_inv {ks vs : List V} {x : Value} (h : RV W B (.dict false ks vs) x) : ∃ a f ws, x = .ref a ∧ B.MapOf (intKind W.prog W.w) a f ∧ a ≠ sysModules ∧ RVs W B vs ws ∧ (∀ k, f k = lkW ks ws (.int k)) := by cases h; exact ⟨_, _, _, rfl, ‹_›, ‹_›, ‹_›, ‹_›⟩
theorem RV.dictS_inv {ks vs : List V} {x : Value} (h : RV W B (.dict true ks vs) x) : ∃ a f ws, x = .ref a ∧ B.MapOf (strKind W.prog W.w) a f ∧ a ≠ sysModules ∧ RVs W B vs ws ∧ (∀ k, f k = lkW ks ws (.str k)) := by cases h; exact ⟨_, _, _, rfl, ‹_›, ‹_›, ‹_›, ‹_›⟩
theorem RV.range_inv {n : Int} {x : Value} (h : RV W B (.range n) x) : ∃ a t u v, x = .ref a ∧ IsRange B a 0 n 1 t u v := by cases h; exact ⟨_, _, _, _, rfl, ‹_›⟩
theorem RV.fn_inv {n : Str} {x : Value} (h : RV W B (.fn n) x) : ∃ a, x = .ref a ∧ W.FA n = some a := by cases h; exact ⟨_, rfl, ‹_›⟩
theorem RV.bf_inv {n : Bf} {x : Value} (h : RV W B (.bf n) x) : x = bfVal n := by cases h; rfl
theorem RVs.nil_inv {xs : List Value} (h : RVs W B [] xs) : xs = [] := by cases h; rfl
theorem RVs.cons_inv {v : V} {vs : List V} {xs : List Value} (h : RVs W B (v :: vs) xs) : ∃ x ys, xs = x :: ys ∧ RV W B v x ∧ RVs W B vs ys := by cases h; exact ⟨_, _, rfl, ‹_›, ‹_›⟩
theorem RA.val_inv {v : V} {x : Value} (h : RA W B ρ (.val v) x) : RV W B v x := by cases h; assumption
theorem RA.plc_inv {i : Nat} {x : Value} (h : RA W B ρ (.plc i) x) : ∃ a, x = .ref a ∧ ρ[i]? = some a := by cases h; exact ⟨_, rfl, ‹_›⟩
end
theorem ok_inj {α : Type} {a b : α} {σ τ : S} (h : Out.ok a σ = Out.ok b τ) : a = b ∧ σ = τ := by cases h; exact ⟨rfl, rfl⟩
theorem exc_inj {α : Type} {σ τ : S} (h : (Out.exc σ : Out α) = Out.exc τ) : σ = τ := by cases h; rfl
theorem nos {α : Type} {a : α} {P : Prop} (h : (none : Option α) = some a) : P := by cases h
theorem son {α : Type} {a : α} {P : Prop} (h : some a = (none : Option α)) : P := by cases h
theorem bad_ok {α : Type} {a : α} {σ : S} {P : Prop} (h : (Out.bad : Out α) = Out.ok a σ) : P := by cases h
theorem bad_exc {α : Type} {σ : S} {P : Prop} (h : (Out.bad : Out α) = Out.exc σ) : P := by cases h
theorem exc_ok {α : Type} {a : α} {σ τ : S} {P : Prop} (h : (Out.exc τ : Out α) = Out.ok a σ) : P := by cases h
theorem ok_exc {α : Type} {a : α} {σ τ : S} {P : Prop} (h : Out.ok a σ = (Out.exc τ : Out α)) : P := by cases h
theorem ff_tt {P : Prop} (h : false = true) : P := by cases h
theorem tt_ff {P : Prop} (h : true = false) : P := by cases h
theorem onI_inv {α : Type} {f : Int → Option α} {a : V} {c : α} (h : onI f a = some c) : ∃ x, a = .int x ∧ f x = some c := by
  rcases a with ⟨⟩ <;> first | exact ⟨_, rfl, h⟩ | exact nos h
theorem onS_inv {α : Type} {f : Str → Option α} {a : V} {c : α} (h : onS f a = some c) : ∃ x, a = .str x ∧ f x = some c := by
  rcases a with ⟨⟩ <;> first | exact ⟨_, rfl, h⟩ | exact nos h
theorem onL_inv {α : Type} {f : List V → Option α} {a : V} {c : α} (h : onL f a = some c) : ∃ x, a = .list x ∧ f x = some c := by
  rcases a with ⟨⟩ <;> first | exact ⟨_, rfl, h⟩ | exact nos h
theorem onBISL_inv {α : Type} {fb : Bool → Option α} {fi : Int → Option α} {fs : Str → Option α} {fl : List V → Option α} {a : V} {c : α} (h : onBISL fb fi fs fl a = some c) :
    (∃ x, a = .bool x ∧ fb x = some c) ∨ (∃ x, a = .int x ∧ fi x = some c) ∨ (∃ x, a = .str x ∧ fs x = some c) ∨ (∃ x, a = .list x ∧ fl x = some c) := by
  rcases a with ⟨⟩ <;> first | exact nos h | exact .inl ⟨_, rfl, h⟩ | exact .inr (.inl ⟨_, rfl, h⟩) | exact .inr (.inr (.inl ⟨_, rfl, h⟩)) | exact .inr (.inr (.inr ⟨_, rfl, h⟩))
theorem onSD_inv {α : Type} {f : Str → Option α} {fd : List V → List V → Option α} {a : V} {c : α} (h : onSD f fd a = some c) : (∃ x, a = .str x ∧ f x = some c) ∨ (∃ ks vs, a = .dict true ks vs ∧ fd ks vs = some c) := by
  rcases a with ⟨⟩ <;> first | exact nos h | exact .inl ⟨_, rfl, h⟩ | skip
  rename_i s ks vs
  rcases s with ⟨⟩
  · exact nos h
  · exact .inr ⟨_, _, rfl, h⟩
theorem natOf_inv {α : Type} {f : Nat → Option α} {a : Int} {c : α} (h : natOf f a = some c) : ∃ x, a = .ofNat x ∧ f x = some c := by
  rcases a with ⟨⟩ <;> first | exact ⟨_, rfl, h⟩ | exact nos h
theorem condn {α : Type} {b : Bool} {o : Option α} {c : α} (h : cond b o none = some c) : b = true ∧ o = some c := by cases b; exact nos h; exact ⟨rfl, h⟩
theorem conds {α : Type} {b : Bool} {x c : α} (h : cond b (some x) none = some c) : b = true ∧ x = c := by cases b; exact nos h; exact ⟨rfl, Option.some.inj h⟩
theorem condf {α : Type} {b : Bool} {x c : α} (h : cond b none (some x) = some c) : b = false ∧ x = c := by cases b; exact ⟨rfl, Option.some.inj h⟩; exact nos h
theorem obind {α β : Type} {o : Option α} {f : α → Option β} {c : β} (h : o.bind f = some c) : ∃ a, o = some a ∧ f a = some c := by cases o; exact nos h; exact ⟨_, rfl, h⟩
theorem omap {α β : Type} {o : Option α} {f : α → β} {c : β} (h : o.map f = some c) : ∃ a, o = some a ∧ f a = c := by cases o; exact nos h; exact ⟨_, rfl, Option.some.inj h⟩
theorem optB_ok {α β : Type} {o : Option α} {f : α → Out β} {b : β} {σ : S} (h : optB o f = .ok b σ) : ∃ a, o = some a ∧ f a = .ok b σ := by cases o; exact bad_ok h; exact ⟨_, rfl, h⟩
theorem optB_exc {α β : Type} {o : Option α} {f : α → Out β} {σ : S} (h : optB o f = .exc σ) : ∃ a, o = some a ∧ f a = .exc σ := by cases o; exact bad_exc h; exact ⟨_, rfl, h⟩
theorem cond_tb {α : Type} {b : Bool} {o : Out α} {a : α} {σ : S} (h : cond b o .bad = .ok a σ) : b = true ∧ o = .ok a σ := by cases b; exact bad_ok h; exact ⟨rfl, h⟩
theorem cond_bt {α : Type} {b : Bool} {o : Out α} {a : α} {σ : S} (h : cond b .bad o = .ok a σ) : b = false ∧ o = .ok a σ := by cases b; exact ⟨rfl, h⟩; exact bad_ok h
theorem cond_tx {α : Type} {b : Bool} {o : Out α} {σ : S} (h : cond b o .bad = .exc σ) : b = true ∧ o = .exc σ := by cases b; exact bad_exc h; exact ⟨rfl, h⟩
theorem cond_xt {α : Type} {b : Bool} {o : Out α} {σ : S} (h : cond b .bad o = .exc σ) : b = false ∧ o = .exc σ := by cases b; exact ⟨rfl, h⟩; exact bad_exc h
theorem not_f {b : Bool} (h : (!b) = false) : b = true := by cases b; exact tt_ff h; rfl
theorem at_some {mem : List (Option M)} {i : Nat} {m : M} (h : at? mem i = some m) : mem[i]? = some (some m) := by
  unfold at? at h
  cases q : mem[i]? with
  | none => rw [q] at h; exact nos h
  | some o => rw [q] at h; rw [show o = some m from h]
theorem one_inv {α : Type} {l : List α} {x : α} (h : one l = some x) : l = [x] := by
  rcases l with _ | ⟨y, _ | ⟨z, r⟩⟩
  · exact nos h
  · rw [show y = x from Option.some.inj h]
  · exact nos h
theorem two_inv {α : Type} {l : List α} {x : α × α} (h : two l = some x) : l = [x.1, x.2] := by
  rcases l with _ | ⟨y, _ | ⟨z, _ | ⟨u, r⟩⟩⟩
  · exact nos h
  · exact nos h
  · rw [show x = (y, z) from (Option.some.inj h).symm]
  · exact nos h
theorem lstOf_inv {m : M} {xs : List V} (h : lstOf m = some xs) : m = .lst xs := by
  rcases m with ⟨⟩ <;> first | exact nos h | rw [show _ = xs from Option.some.inj h]
theorem itrOf_inv {m : M} {xs : List V} (h : itrOf m = some xs) : m = .itr xs := by
  rcases m with ⟨⟩ <;> first | exact nos h | rw [show _ = xs from Option.some.inj h]
theorem valOf_inv {a : A} {v : V} (h : valOf a = some v) : a = .val v := by
  rcases a with ⟨⟩ <;> first | exact nos h | rw [show _ = v from Option.some.inj h]
theorem plcOf_inv {a : A} {i : Nat} (h : plcOf a = some i) : a = .plc i := by
  rcases a with ⟨⟩ <;> first | exact nos h | rw [show _ = i from Option.some.inj h]
theorem nameE_inv {e : Expr} {x : Str} (h : nameE e = some x) : ∃ p, e = .Name x p := by
  rcases e with ⟨⟩ <;> first | exact nos h | exact ⟨_, by rw [show _ = x from Option.some.inj h]⟩
theorem nameP_inv {e : Expr} {x : Str × Pos} (h : nameP e = some x) : e = .Name x.1 x.2 := by
  rcases e with ⟨⟩ <;> first | exact nos h | rw [show x = (_, _) from (Option.some.inj h).symm]
theorem attrE_inv {e : Expr} {x : Expr × Str × Pos} (h : attrE e = some x) : e = .Attribute x.1 x.2.1 x.2.2 := by
  rcases e with ⟨⟩ <;> first | exact nos h | rw [show x = (_, _, _) from (Option.some.inj h).symm]
theorem subE_inv {e : Expr} {x : Expr × Expr} (h : subE e = some x) : ∃ p, e = .Subscript x.1 x.2 p := by
  rcases e with ⟨⟩ <;> first | exact nos h | exact ⟨_, by rw [show x = (_, _) from (Option.some.inj h).symm]⟩
theorem listE_inv {e : Expr} {x : List Expr} (h : listE e = some x) : ∃ p, e = .List x p := by
  rcases e with ⟨⟩ <;> first | exact nos h | exact ⟨_, by rw [show _ = x from Option.some.inj h]⟩
theorem tupE_inv {e : Expr} {x : List Expr} (h : tupE e = some x) : ∃ k p, e = .Tuple x k p := by
  rcases e with ⟨⟩ <;> first | exact nos h | exact ⟨_, _, by rw [show _ = x from Option.some.inj h]⟩
theorem constE_inv {e : Expr} {x : Const} (h : constE e = some x) : ∃ k p, e = .Constant x k p := by
  rcases e with ⟨⟩ <;> first | exact nos h | exact ⟨_, _, by rw [show _ = x from Option.some.inj h]⟩
theorem intC_inv {e : Const} {x : Int} (h : intC e = some x) : e = .int x := by
  rcases e with ⟨⟩ <;> first | exact nos h | rw [show _ = x from Option.some.inj h]
theorem boolC_inv {e : Const} {x : Bool} (h : boolC e = some x) : e = .bool x := by
  rcases e with ⟨⟩ <;> first | exact nos h | rw [show _ = x from Option.some.inj h]
theorem fnOf_inv {v : V} {x : Str} (h : fnOf? v = some x) : v = .fn x := by
  rcases v with ⟨⟩ <;> first | exact nos h | rw [show _ = x from Option.some.inj h]
theorem bfOf_inv {v : V} {x : Bf} (h : bfOf? v = some x) : v = .bf x := by
  rcases v with ⟨⟩ <;> first | exact nos h | rw [show _ = x from Option.some.inj h]
theorem tupOf_inv {v : V} {x : List V} (h : tupOf v = some x) : v = .tup x := by
  rcases v with ⟨⟩ <;> first | exact nos h | rw [show _ = x from Option.some.inj h]
theorem isEmpty_inv {α : Type} {l : List α} (h : l.isEmpty = true) : l = [] := by cases l; rfl; exact ff_tt h
end

section
open PySem PySem.Calls PyProof.Rows PySem.W
set_option backward.match.sparseCases false
set_option maxRecDepth 100000
theorem eqN_iff : ∀ {a b : List Nat}, eqN a b = true ↔ a = b
  | [], [] => by simp [eqN]
  | [], _ :: _ => by simp [eqN]
  | _ :: _, [] => by simp [eqN]
  | a :: r, b :: t => by
    unfold eqN
    cases h : Nat.beq a b with
    | true => simp only [cond_true, List.cons.injEq, eqN_iff, Nat.eq_of_beq_eq_true h, true_and]
    | false => simp only [cond_false, Bool.false_eq_true, List.cons.injEq, false_iff, not_and]; exact fun e => absurd e (Nat.ne_of_beq_eq_false h)
theorem nEq_iff {a b : Str} : nEq a b = true ↔ a = b := by
  unfold nEq
  rw [eqN_iff]
  constructor
  · intro h
    obtain ⟨x⟩ := a
    obtain ⟨y⟩ := b
    exact congrArg Str.mk (Array.ext' h)
  · intro h; rw [h]
theorem nEq_beq (a b : Str) : nEq a b = (a == b) := by
  cases h : nEq a b with
  | true => exact (beq_iff_eq.mpr (nEq_iff.mp h)).symm
  | false => exact (beq_eq_false_iff_ne.mpr fun e => by rw [nEq_iff.mpr e] at h; cases h).symm
theorem nEq_decide (a b : Str) : nEq a b = decide (a = b) := by
  cases h : nEq a b with
  | true => exact (decide_eq_true (nEq_iff.mp h)).symm
  | false => exact (decide_eq_false fun e => by rw [nEq_iff.mpr e] at h; cases h).symm
theorem nEq_self (a : Str) : nEq a a = true := nEq_iff.mpr rfl
theorem lkN_eq {α : Type} : ∀ (l : List (Str × α)) (x : Str), lkN l x = l.lookup x
  | [], _ => rfl
  | p :: r, x => by
    obtain ⟨k, v⟩ := p
    rw [List.lookup_cons]
    show cond (nEq x k) (some v) (lkN r x) = _
    rw [nEq_beq, lkN_eq r x]
    cases x == k <;> rfl
theorem lkN_putN {α : Type} : ∀ (l : List (Str × α)) (x : Str) (a : α) (y : Str), lkN (putN l x a) y = if y = x then some a else lkN l y
  | [], x, a, y => by
    show cond (nEq y x) (some a) none = _
    rw [nEq_decide]
    by_cases h : y = x <;> simp [h, lkN]
  | p :: r, x, a, y => by
    unfold putN
    cases h : nEq x p.1 with
    | true =>
      have e := nEq_iff.mp h
      show cond (nEq y x) (some a) (lkN r y) = if y = x then some a else cond (nEq y p.1) (some p.2) (lkN r y)
      rw [← e, nEq_decide]
      by_cases q : y = x <;> simp [q]
    | false =>
      show cond (nEq y p.1) (some p.2) (lkN (putN r x a) y) = if y = x then some a else cond (nEq y p.1) (some p.2) (lkN r y)
      rw [lkN_putN r x a y]
      cases q : nEq y p.1 with
      | true =>
        have e := nEq_iff.mp q
        have : y ≠ x := fun z => by rw [← e, z, nEq_self] at h; cases h
        simp [this]
      | false => simp
theorem Heap.IsList.sub {h h' : Heap} {a items} (x : h.IsList a items) (s : Sub h h') : h'.IsList a items := let ⟨o, ho, r⟩ := x; ⟨o, s _ _ ho, r⟩
theorem RM.at {W B ρ} {h h' : Heap} {a : Addr} {m : M} (x : RM W B ρ h a m) (e : ∀ o, h.get? a = some o → h'.get? a = some o) : RM W B ρ h' a m := by
  cases m with
  | lst xs => obtain ⟨it, ⟨n, hp⟩, r⟩ := x; exact ⟨it, ⟨n, e _ hp⟩, r⟩
  | dct ks vs =>
    obtain ⟨f, ws, n, ⟨o, es, ep, ho, r⟩, hs, hl, hn, r5, r6, r7, r8⟩ := x
    exact ⟨f, ws, n, ⟨o, es, ep, e _ ho, r⟩, hs, (fun o' es' ep' ho' hd' => hl o' es' ep' (by rw [e _ ho] at ho'; rw [← Option.some.inj ho']; exact ho) hd'), hn, r5, r6, r7, r8⟩
  | itr xs => obtain ⟨ax, pos, it, ys, ⟨o, ho, r⟩, r2, r3, r4, r5⟩ := x; exact ⟨ax, pos, it, ys, ⟨o, e _ ho, r⟩, r2, r3, r4, r5⟩
  | cell c =>
    cases c with
    | none => obtain ⟨o, ho, hd⟩ := x; exact ⟨o, e _ ho, hd⟩
    | some c => obtain ⟨v, ⟨o, ho, hd⟩, r⟩ := x; exact ⟨v, ⟨o, e _ ho, hd⟩, r⟩
theorem RM.mono {W B B'} {ρ ρ' : List Addr} {h : Heap} {a : Addr} {m : M} (x : RM W B ρ h a m) (s : Sub B B') (r : ∃ t, ρ' = ρ ++ t) : RM W B' ρ' h a m := by
  cases m with
  | lst xs => obtain ⟨it, hp, q⟩ := x; exact ⟨it, hp, q.mono s⟩
  | dct ks vs =>
    obtain ⟨f, ws, n, a1, a2, a3, a4, a5, a6, a7, a8⟩ := x
    exact ⟨f, ws, n, a1, a2, a3, a4, a5.mono s, a6, a7, a8⟩
  | itr xs => obtain ⟨ax, pos, it, ys, a1, a2, a3, a4, a5⟩ := x; exact ⟨ax, pos, it, ys, a1, Heap.IsList.sub a2 s, a3.mono s, a4, a5⟩
  | cell c =>
    cases c with
    | none => exact x
    | some c => obtain ⟨v, a1, a2⟩ := x; exact ⟨v, a1, a2.mono s r⟩
noncomputable def addTo (B h : Heap) (a : Addr) : Heap := hideAll h ((List.range h.objs.size).filter fun b => (B.get? b).isNone && !(b == a))
theorem addTo_get {B h : Heap} {a b : Addr} {o : Obj} (hb : h.get? b = some o) (e : (B.get? b).isSome = true ∨ b = a) : (addTo B h a).get? b = some o := by
  refine hideAll_get _ hb fun hm => ?_
  rw [List.mem_filter] at hm
  rcases e with e | e
  · rw [Option.isSome_iff_exists] at e
    obtain ⟨o', e⟩ := e
    rw [e] at hm; simp at hm
  · subst e; simp at hm
theorem addTo_of {B h : Heap} {a b : Addr} {o : Obj} (e : (addTo B h a).get? b = some o) : h.get? b = some o ∧ ((B.get? b).isSome = true ∨ b = a) := by
  have q := of_hideAll _ e
  refine ⟨q, ?_⟩
  cases z : B.get? b with
  | some o' => exact .inl rfl
  | none =>
    right
    cases w : (b == a) with
    | true => exact eq_of_beq w
    | false =>
      exfalso
      have hm : b ∈ (List.range h.objs.size).filter fun b => (B.get? b).isNone && !(b == a) := by
        rw [List.mem_filter]
        exact ⟨List.mem_range.mpr (Heap.lt_size q), by rw [z, w]; rfl⟩
      rw [addTo, hideAll_none _ hm] at e
      cases e
end

section
open PySem PySem.Calls PyProof.Rows PySem.W
set_option backward.match.sparseCases false
set_option maxRecDepth 100000
set_option linter.unusedVariables false
section
variable {W : Wd} {B₀ B : Heap} {ρ : List Addr} {env : Env} {cx : Cx} {σ : S} {s : Shared}
theorem Sta.Llt (X : Sta W B₀ B ρ env cx σ s) : env.locals < s.heap.objs.size := by
  obtain ⟨m, ⟨o, _, _, ho, _⟩, _⟩ := X.locs
  exact Heap.lt_size ho
theorem Sta.grow (X : Sta W B₀ B ρ env cx σ s) {h' : Heap} {k : Nat} (sub : Sub s.heap h') (hz : s.heap.objs.size ≤ h'.objs.size) :
    Sta W B₀ B ρ env cx σ { s with heap := h', toks := k } where
  stays := X.stays.trans sub
  base := X.base
  ok := X.ok
  locs := by obtain ⟨m, hn, h⟩ := X.locs; exact ⟨m, hn.keeps sub, h⟩
  L := X.L
  len := X.len
  nodup := X.nodup
  lt := fun a ha => Nat.lt_of_lt_of_le (X.lt a ha) hz
  mem := fun i m hm => by obtain ⟨a, h1, h2, h3⟩ := X.mem i m hm; exact ⟨a, h1, h2, h3.at fun o e => sub _ _ e⟩
  fr := X.fr_of hz fun o e => ⟨o, sub _ _ e, rfl⟩
  stk := X.stk.same fun F o _ h1 h2 _ h3 => ⟨sub _ _ h3, h1, h2⟩
theorem Ext.grow {L} {h' : Heap} {k : Nat} (sub : Sub s.heap h') (hz : s.heap.objs.size ≤ h'.objs.size) : Ext L B ρ s B ρ { s with heap := h', toks := k } :=
  ⟨Sub.refl _, fun a o h n => (by rw [h] at n; cases n), ⟨[], by simp, by simp⟩, kx fun b o _ _ e => sub b o e, hz, rfl, rfl⟩
theorem Ext.drawn {L} {B' : Heap} {ρ' : List Addr} {s' : Shared} (e : Ext L B ρ s B' ρ' s') (d : PySem.Drawn) : Ext L B ρ s B' ρ' { s' with drawn := d } := ⟨e.sub, e.new, e.rho, e.keep, e.size, e.rest⟩
theorem Sta.drawn (X : Sta W B₀ B ρ env cx σ s) (d : PySem.Drawn) : Sta W B₀ B ρ env cx σ { s with drawn := d } := ⟨X.stays, X.base, X.ok, X.locs, X.L, X.len, X.nodup, X.lt, X.mem, X.fr, X.stk⟩
theorem Sta.freeze (X : Sta W B₀ B ρ env cx σ s) {a : Addr} {o : Obj} (ho : s.heap.get? a = some o) (haL : a ≠ env.locals)
    (hm : ∀ (i : Nat) (m : M), σ.mem[i]? = some (some m) → ρ[i]? ≠ some a) (hfs : ∀ e ∈ W.fs, e.frame ≠ some a) : Sta W B₀ (addTo B s.heap a) ρ env cx σ s := by
  have sub : Sub B (addTo B s.heap a) := fun b o' e => addTo_get (X.stays b o' e) (.inl (by rw [e]; rfl))
  refine ⟨fun b o' e => (addTo_of e).1, X.base.trans sub, X.ok, ?_, ?_, X.len, X.nodup, X.lt, fun i m h => ?_, X.fr, X.stk.same fun F o h0 h1 h2 ⟨e, he, hF⟩ h3 => ⟨h3, ?_, h2⟩⟩
  rotate_left 3
  · cases q : (addTo B s.heap a).get? F with
    | none => rfl
    | some o' =>
      rcases (addTo_of q).2 with z | z
      · rw [h1] at z; cases z
      · exact absurd (z ▸ hF) (hfs e he)
  · obtain ⟨mm, hn, h⟩ := X.locs
    exact ⟨mm, hn, fun x a' e => let ⟨v, h1, h2⟩ := h x a' e; ⟨v, h1, h2.mono sub ⟨[], by simp⟩⟩⟩
  · refine ⟨?_, X.L.2⟩
    cases q : (addTo B s.heap a).get? env.locals with
    | none => rfl
    | some o' =>
      rcases (addTo_of q).2 with z | z
      · rw [X.L.1] at z; cases z
      · exact absurd z.symm haL
  · obtain ⟨b, h1, h2, h3⟩ := X.mem i m h
    refine ⟨b, h1, ?_, h3.mono sub ⟨[], by simp⟩⟩
    cases q : (addTo B s.heap a).get? b with
    | none => rfl
    | some o' =>
      rcases (addTo_of q).2 with z | z
      · rw [h2] at z; cases z
      · exact absurd (z ▸ h1) (hm i m h)
theorem Ext.freeze {L} (st : Sub B s.heap) {a : Addr} (ha : a ∈ ρ ∨ s.heap.objs.size ≤ a) : Ext L B ρ s (addTo B s.heap a) ρ s :=
  ⟨fun b o' e => addTo_get (st b o' e) (.inl (by rw [e]; rfl)), fun b o h n => (by
    rcases (addTo_of h).2 with z | z
    · rw [n] at z; cases z
    · rw [z]; exact ha), ⟨[], by simp, by simp⟩, kx fun _ _ _ _ e => e, Nat.le_refl _, rfl, rfl⟩
theorem Sta.made (X : Sta W B₀ B ρ env cx σ s) {h' : Heap} {k : Nat} {a : Addr} {o : Obj} (sub : Sub s.heap h') (hz : s.heap.objs.size ≤ h'.objs.size)
    (ho : h'.get? a = some o) (ha : s.heap.objs.size ≤ a) :
    ∃ B', Ext env.locals B ρ s B' ρ { s with heap := h', toks := k } ∧ Sta W B₀ B' ρ env cx σ { s with heap := h', toks := k } ∧ B'.get? a = some o := by
  have Y := X.grow (k := k) sub hz
  have hn : ∀ (i : Nat) (m : M), σ.mem[i]? = some (some m) → ρ[i]? ≠ some a := fun i m _ e => by
    exact Nat.lt_irrefl _ (Nat.lt_of_lt_of_le (X.lt a (List.mem_of_getElem? e)) ha)
  refine ⟨addTo B h' a, ?_, Y.freeze ho (fun e => ?_) hn (fun e he q => Nat.lt_irrefl _ (Nat.lt_of_lt_of_le (X.stk.at he q).1 ha)), addTo_get ho (.inr rfl)⟩
  · refine ⟨fun b o' e => addTo_get (sub _ _ (X.stays b o' e)) (.inl (by rw [e]; rfl)), fun b o' h n => ?_, ⟨[], by simp, by simp⟩, kx fun b o' _ _ e => sub b o' e, hz, rfl, rfl⟩
    rcases (addTo_of h).2 with z | z
    · rw [n] at z; cases z
    · right; rw [z]; exact ha
  · exact Nat.lt_irrefl _ (Nat.lt_of_lt_of_le (e ▸ X.Llt) ha)
theorem Sta.place (X : Sta W B₀ B ρ env cx σ s) {h' : Heap} {k : Nat} {a : Addr} {o : Obj} {m : M} (sub : Sub s.heap h') (hz : s.heap.objs.size ≤ h'.objs.size)
    (ho : h'.get? a = some o) (ha : s.heap.objs.size ≤ a) (hm : RM W B ρ h' a m) :
    Ext env.locals B ρ s B (ρ ++ [a]) { s with heap := h', toks := k } ∧ Sta W B₀ B (ρ ++ [a]) env cx ⟨σ.loc, σ.mem ++ [some m]⟩ { s with heap := h', toks := k } := by
  have Y := X.grow (k := k) sub hz
  have hB : B.get? a = none := by
    cases q : B.get? a with
    | none => rfl
    | some o' => exact absurd (Heap.lt_size (X.stays _ _ q)) (Nat.not_lt.mpr ha)
  have hr : a ∉ ρ := fun h => Nat.lt_irrefl _ (Nat.lt_of_lt_of_le (X.lt a h) ha)
  refine ⟨⟨Sub.refl _, fun b o' h n => (by rw [h] at n; cases n), ⟨[a], rfl, by simp [ha]⟩, kx fun b o' _ _ e => sub b o' e, hz, rfl, rfl⟩, ?_⟩
  refine ⟨Y.stays, Y.base, ⟨X.ok.scope, X.ok.kind, X.ok.globals, X.ok.builtins, fun x i e0 e => ?_⟩, ?_, ⟨X.L.1, ?_⟩, ?_, ?_, ?_, ?_, Y.fr, X.stk.same fun F o h0 h1 h2 _ h3 => ⟨sub _ _ h3, h1, fun hm => (List.mem_append.mp hm).elim h2 fun hm => Nat.lt_irrefl _ (Nat.lt_of_lt_of_le h0 (List.mem_singleton.mp hm ▸ ha))⟩⟩
  · obtain ⟨c, h1, h2⟩ := X.ok.cells x i e0 e
    exact ⟨c, h1, by rw [List.getElem?_append_left (List.getElem?_eq_some_iff.mp h2).1]; exact h2⟩
  · obtain ⟨mm, hn, h⟩ := Y.locs
    exact ⟨mm, hn, fun x a' e => let ⟨v, h1, h2⟩ := h x a' e; ⟨v, h1, h2.mono (Sub.refl _) ⟨[a], rfl⟩⟩⟩
  · intro h
    rcases List.mem_append.mp h with h | h
    · exact X.L.2 h
    · exact Nat.lt_irrefl _ (Nat.lt_of_lt_of_le (List.mem_singleton.mp h ▸ X.Llt) ha)
  · show (σ.mem ++ [some m]).length = (ρ ++ [a]).length
    simp [X.len]
  · rw [List.nodup_append]
    refine ⟨X.nodup, by simp, fun b hb c hc e => ?_⟩
    rw [List.mem_singleton.mp hc] at e
    exact hr (e ▸ hb)
  · intro b hb
    rcases List.mem_append.mp hb with h | h
    · exact Y.lt b h
    · rw [List.mem_singleton.mp h]; exact Heap.lt_size ho
  · intro i m' hi
    by_cases hlt : i < σ.mem.length
    · have hi' : σ.mem[i]? = some (some m') := by
        have : (σ.mem ++ [some m])[i]? = σ.mem[i]? := List.getElem?_append_left hlt
        rw [← this]; exact hi
      obtain ⟨b, h1, h2, h3⟩ := Y.mem i m' hi'
      exact ⟨b, by rw [List.getElem?_append_left (by rw [← X.len]; exact hlt)]; exact h1, h2, h3.mono (Sub.refl _) ⟨[a], rfl⟩⟩
    · have he : i = σ.mem.length := by
        have := (List.getElem?_eq_some_iff.mp hi).1
        simp at this; omega
      subst he
      have : (σ.mem ++ [some m])[σ.mem.length]? = some (some m) := by simp
      have e : m' = m := by
        have q : (σ.mem ++ [some m])[σ.mem.length]? = some (some m') := hi
        rw [this] at q; cases q; rfl
      subst e
      exact ⟨a, by rw [X.len]; simp, hB, hm.mono (Sub.refl _) ⟨[a], rfl⟩⟩
theorem Sta.turn (X : Sta W B₀ B ρ env cx σ s) {h' : Heap} {k : Nat} {a : Addr} {i : Nat} {m : Option M} (hi : ρ[i]? = some a) (hb : B.get? a = none)
    (sub : ∀ b o, b ≠ a → s.heap.get? b = some o → h'.get? b = some o) (hz : s.heap.objs.size ≤ h'.objs.size) (hm : ∀ m', m = some m' → RM W B ρ h' a m') :
    Ext env.locals B ρ s B ρ { s with heap := h', toks := k } ∧ Sta W B₀ B ρ env cx ⟨σ.loc, σ.mem.set i m⟩ { s with heap := h', toks := k } := by
  have ha : a ∈ ρ := List.mem_of_getElem? hi
  have stays : Sub B h' := fun b o e => sub b o (fun q => by rw [q, hb] at e; cases e) (X.stays b o e)
  refine ⟨⟨Sub.refl _, fun b o' h n => (by rw [h] at n; cases n), ⟨[], by simp, by simp⟩, kx fun b o' _ hr e => sub b o' (fun q => hr (q ▸ ha)) e, hz, rfl, rfl⟩, ?_⟩
  refine ⟨stays, X.base, X.ok, ?_, X.L, by simp [X.len], X.nodup, fun b hb' => Nat.lt_of_lt_of_le (X.lt b hb') hz, fun j m' hj => ?_, X.fr_of hz fun o e => ⟨o, sub _ _ (fun q => X.L.2 (q ▸ ha)) e, rfl⟩, X.stk.same fun F o h0 h1 h2 _ h3 => ⟨sub _ _ (fun q => h2 (q ▸ ha)) h3, h1, h2⟩⟩
  · obtain ⟨mm, ⟨o, es, ep, ho, r⟩, h⟩ := X.locs
    exact ⟨mm, ⟨o, es, ep, sub _ _ (fun q => X.L.2 (q ▸ ha)) ho, r⟩, h⟩
  · have hj' : (σ.mem.set i m)[j]? = some (some m') := hj
    by_cases e : i = j
    · subst e
      have hlt : i < σ.mem.length := by rw [X.len]; exact (List.getElem?_eq_some_iff.mp hi).1
      rw [List.getElem?_set_self hlt] at hj'
      cases hj'
      exact ⟨a, hi, hb, hm m' rfl⟩
    · rw [List.getElem?_set_ne e] at hj'
      obtain ⟨b, h1, h2, h3⟩ := X.mem j m' hj'
      refine ⟨b, h1, h2, h3.at fun o q => sub _ _ (fun z => ?_) q⟩
      subst z
      exact e ((List.getElem?_inj (List.getElem?_eq_some_iff.mp hi).1 X.nodup).mp (hi.trans h1.symm))
theorem Sta.drop (X : Sta W B₀ B ρ env cx σ s) (i : Nat) : Sta W B₀ B ρ env cx ⟨σ.loc, σ.mem.set i none⟩ s := by
  refine ⟨X.stays, X.base, X.ok, X.locs, X.L, by simp [X.len], X.nodup, X.lt, fun j m hj => ?_, X.fr, X.stk⟩
  have hj' : (σ.mem.set i none)[j]? = some (some m) := hj
  by_cases e : i = j
  · subst e
    by_cases hlt : i < σ.mem.length
    · rw [List.getElem?_set_self hlt] at hj'; cases hj'
    · rw [List.getElem?_eq_none (by simp; omega)] at hj'; cases hj'
  · rw [List.getElem?_set_ne e] at hj'
    exact X.mem j m hj'
end
end

section
open PySem PySem.Calls PyProof.Rows PySem.W
set_option backward.match.sparseCases false
set_option maxRecDepth 100000
set_option linter.unusedVariables false
structure FnOk (W : Wd) (B₀ : Heap) (x : Str) (f : Fn) (a : Addr) (o : Obj) (fd : FuncData) : Prop where
  addr : W.FA x = some a
  get : B₀.get? a = some o
  data : o.data = .func fd
  body : fd.body = .stmts f.body
  scope : fd.scope = f.scope
  kind : f.scope.kind = .function
  co : f.scope.isCoroutine = false
  gen : f.scope.isGenerator = false
  closure : fd.closure = []
  globals : fd.globals = mainGlobals
  builtins : fd.builtins = builtinsNs
  code : B₀.CodeRec fd.code fd.qualname
  bind : ∀ vs : List Value, vs.length = f.params.length → bindArgs fd ⟨vs, []⟩ = pure (f.params.zip vs)
  kinds : ∀ p ∈ f.params, f.scope.names.lookup p = some .local ∨ f.scope.names.lookup p = some .cell
  nodup : f.params.Nodup
  cnodup : (cellNames f.scope.names).Nodup
  cnames : ∀ c ∈ cellNames f.scope.names, f.scope.names.lookup c = some .cell
structure BaseOk (W : Wd) (g : Gl) (B₀ : Heap) : Prop where
  nolimit : B₀.NoLimit
  glob : ∃ mg mb, B₀.Ns mainGlobals mg ∧ B₀.Ns builtinsNs mb ∧ ∀ x v, g.glob x = some v → ∃ y, RV W B₀ v y ∧ (mg x = some y ∨ (mg x = none ∧ mb x = some y))
  fns : ∀ x f, g.fns x = some f → ∃ a o fd, FnOk W B₀ x f a o fd
section
variable {W : Wd} {g : Gl} {B₀ B : Heap} {ρ : List Addr} {env : Env} {cx : Cx} {σ : S} {s : Shared} {M' : Model} {A' : Around} {E : Value → Shared → Prop}
theorem Sta.kindOf (X : Sta W B₀ B ρ env cx σ s) (x : Str) : env.kindOf x = lkN cx.scope.names x := by
  unfold Env.kindOf
  rw [X.ok.scope, lkN_eq]
theorem Sta.fnKind (X : Sta W B₀ B ρ env cx σ s) : env.scope.kind = .function := by rw [X.ok.scope]; exact X.ok.kind
inductive CelAt (W : Wd) (B : Heap) (ρ : List Addr) (env : Env) (s : Shared) (x : Str) (i : Nat) (c : Option A) : Prop
  | mk (a : Addr) (h1 : env.cells.lookup x = some a) (h2 : ρ[i]? = some a) (h3 : B.get? a = none) (h4 : RM W B ρ s.heap a (.cell c))
theorem Sta.cellAt (X : Sta W B₀ B ρ env cx σ s) {x : Str} {i : Nat} {c : Option A} (hk : lkN cx.scope.names x = some .cell) (hc : lkN cx.cells x = some i) (hm : σ.mem[i]? = some (some (.cell c))) :
    CelAt W B ρ env s x i c := by
  obtain ⟨a, h1, h2⟩ := X.ok.cells x i hk hc
  obtain ⟨b, g1, g2, g3⟩ := X.mem i _ hm
  obtain rfl : a = b := Option.some.inj (h2.symm.trans g1)
  exact ⟨a, h1, h2, g2, g3⟩
theorem kd_loc {o : Option NameKind} (h : kdOf o = .loc) : o = some .local := by
  rcases o with _ | k
  · cases h
  · rcases k with ⟨⟩ <;> first | rfl | exact nomatch h
theorem kd_cel {o : Option NameKind} (h : kdOf o = .cel) : o = some .cell := by
  rcases o with _ | k
  · cases h
  · rcases k with ⟨⟩ <;> first | rfl | exact nomatch h
theorem kd_glb {o : Option NameKind} (h : kdOf o = .glb) : o = some .globalImplicit := by
  rcases o with _ | k
  · cases h
  · rcases k with ⟨⟩ <;> first | rfl | exact nomatch h
theorem celOf_inv {m : M} {a : A} (h : celOf m = some a) : m = .cell (some a) := by
  rcases m with ⟨⟩ <;> first | exact nos h | exact congrArg M.cell h
theorem isCell_inv {m : M} (h : isCellM m = true) : ∃ c, m = .cell c := by
  rcases m with ⟨⟩ <;> first | exact ff_tt h | exact ⟨_, rfl⟩
inductive RawR (g : Gl) (cx : Cx) (σ : S) (x : Str) (a : A) : Prop
  | loc (q : lkN cx.scope.names x = some .local) (h : lkN σ.loc x = some a)
  | cel (i : Nat) (q : lkN cx.scope.names x = some .cell) (hi : lkN cx.cells x = some i) (hm : σ.mem[i]? = some (some (.cell (some a))))
  | glb (v : V) (q : lkN cx.scope.names x = some .globalImplicit) (hg : g.glob x = some v) (ha : A.val v = a)
theorem raw_r {x : Str} {a : A} (h : readRaw g cx σ x = some a) : nEq x dbgS = false ∧ RawR g cx σ x a := by
  unfold readRaw at h
  obtain ⟨h0, h⟩ : nEq x dbgS = false ∧ _ = some a := by
    rcases hd : nEq x dbgS with _ | _
    · rw [hd] at h; exact ⟨rfl, h⟩
    · rw [hd] at h; exact nos h
  refine ⟨h0, ?_⟩
  rcases q : kdOf (lkN cx.scope.names x) with _ | _ | _ | _ <;> rw [q] at h
  · exact .loc (kd_loc q) h
  · obtain ⟨i, hi, h⟩ := obind h
    obtain ⟨m, hm, h⟩ := obind h
    exact .cel i (kd_cel q) hi (celOf_inv h ▸ at_some hm)
  · obtain ⟨v, hg, h⟩ := omap h
    exact .glb v (kd_glb q) hg h
  · exact nos h
inductive WrR (cx : Cx) (σ : S) (x : Str) (a : A) (σ' : S) : Prop
  | loc (q : lkN cx.scope.names x = some .local) (h : ⟨putN σ.loc x a, σ.mem⟩ = σ')
  | cel (i : Nat) (c : Option A) (q : lkN cx.scope.names x = some .cell) (hi : lkN cx.cells x = some i) (hm : σ.mem[i]? = some (some (.cell c))) (h : ⟨σ.loc, σ.mem.set i (some (.cell (some a)))⟩ = σ')
theorem wr_r {x : Str} {a : A} {σ' : S} (h : writeName cx σ x a = some σ') : WrR cx σ x a σ' := by
  unfold writeName at h
  rcases q : kdOf (lkN cx.scope.names x) with _ | _ | _ | _ <;> rw [q] at h
  · exact .loc (kd_loc q) (Option.some.inj h)
  · obtain ⟨i, hi, h⟩ := obind h
    obtain ⟨m, hm, h⟩ := obind h
    obtain ⟨hc, h2⟩ := conds h
    obtain ⟨c, rfl⟩ := isCell_inv hc
    exact .cel i c (kd_cel q) hi (at_some hm) h2
  · exact nos h
  · exact nos h
theorem ns_uniq {h : Heap} {a : Addr} {m m' : Str → Option Value} (x : h.Ns a m) (y : h.Ns a m') : m = m' := by
  obtain ⟨o, es, ep, ho, hd, _, hf⟩ := x
  obtain ⟨o', es', ep', ho', hd', _, hf'⟩ := y
  obtain rfl := Option.some.inj (ho.symm.trans ho')
  rw [hd] at hd'
  have e : es = es' := by injection hd'
  exact funext fun n => (hf n).symm.trans (e ▸ hf' n)
theorem dbgS_eq : dbgS = ("__debug__" : Str) := by decide +kernel
theorem raw_load (hb : BaseOk W g B₀) (X : Sta W B₀ B ρ env cx σ s) {x : Str} {a : A} {pos : Pos} {Q : Value → Shared → Prop} (h : readRaw g cx σ x = some a)
    (k : ∀ v, RA W B ρ a v → (∀ m, s.heap.Ns env.locals m → lkN cx.scope.names x = some .local → m x = some v) →
      (∀ i c, lkN cx.scope.names x = some .cell → lkN cx.cells x = some i → ρ[i]? = some c → s.heap.IsCell c (some v)) → Q v s) : wpAny M' A' (eval (.Name x pos) env) Q E s := by
  obtain ⟨hd, r⟩ := raw_r h
  have hd' : (x == ("__debug__" : Str)) = false := by rw [← nEq_beq, ← dbgS_eq]; exact hd
  have hk := X.kindOf x
  rcases r with ⟨q, h⟩ | ⟨i, q, hi, hm⟩ | ⟨v, q, hg, rfl⟩
  · obtain ⟨m, hn, hl⟩ := X.locs
    obtain ⟨v, hv, hr⟩ := hl x a h
    exact wpAny_Name (wpAny_loadName_local X.fnKind (hk.trans q) hn hv (k v hr (fun m' hn' _ => ns_uniq hn hn' ▸ hv) fun i c e => nomatch q.symm.trans e)) hd'
  · obtain ⟨ad, h1, h2, h3, h4⟩ := X.cellAt q hi hm
    obtain ⟨v, hc, hr⟩ := h4
    refine wpAny_Name (wpAny_loadName_cell X.fnKind (hk.trans q) h1 hc (k v hr (fun m' hn' e => nomatch q.symm.trans e) fun i' c' _ e e' => ?_)) hd'
    obtain rfl := Option.some.inj (hi.symm.trans e)
    exact Option.some.inj (h2.symm.trans e') ▸ hc
  · obtain ⟨mg, mb, n1, n2, hv⟩ := hb.glob
    have sub := X.base.trans X.stays
    have n1' : s.heap.Ns env.globals mg := by rw [X.ok.globals]; exact n1.keeps sub
    have n2' : s.heap.Ns env.builtins mb := by rw [X.ok.builtins]; exact n2.keeps sub
    obtain ⟨y, hr, hy⟩ := hv x v hg
    have kk := k y (.val (hr.mono X.base)) (fun m' hn' e => nomatch q.symm.trans e) fun i c e => nomatch q.symm.trans e
    rcases hy with hy | ⟨hy, hz⟩
    · exact Name_function_global X.fnKind (hk.trans q) (loadGlobal_global n1' hy kk) hd'
    · exact Name_function_global X.fnKind (hk.trans q) (loadGlobal_builtin n1' hy n2' hz kk) hd'
theorem Sta.reloc (X : Sta W B₀ B ρ env cx σ s) {x : Str} {a : A} (h : ∀ m, s.heap.Ns env.locals m → ∃ v, m x = some v ∧ RA W B ρ a v) : Sta W B₀ B ρ env cx ⟨putN σ.loc x a, σ.mem⟩ s := by
  refine ⟨X.stays, X.base, X.ok, ?_, X.L, X.len, X.nodup, X.lt, X.mem, X.fr, X.stk⟩
  obtain ⟨m, hn, hl⟩ := X.locs
  refine ⟨m, hn, fun y b e => ?_⟩
  have e' := (lkN_putN σ.loc x a y).symm.trans e
  by_cases q : y = x
  · rw [if_pos q] at e'
    obtain rfl := Option.some.inj e'
    exact q ▸ h m hn
  · rw [if_neg q] at e'
    exact hl y b e'
theorem Sta.recell (X : Sta W B₀ B ρ env cx σ s) {i : Nat} {c : Addr} {a : A} {v : Value} (hi : ρ[i]? = some c) (hB : B.get? c = none) (hc : s.heap.IsCell c (some v)) (hr : RA W B ρ a v) :
    Sta W B₀ B ρ env cx ⟨σ.loc, σ.mem.set i (some (.cell (some a)))⟩ s := by
  have z := (X.turn (k := s.toks) (h' := s.heap) (m := some (.cell (some a))) hi hB (fun _ _ _ e => e) (Nat.le_refl _) (fun m' e => by cases e; exact ⟨v, hc, hr⟩)).2
  exact z
theorem nsSetC {M : Model} {A : Around} {E : Value → Shared → Prop} {s : Shared} {a : Addr} {m} {name : Str} {v : Value} {Q : Unit → Shared → Prop} (hn : s.heap.Ns a m)
    (hQ : ∀ h', h'.Ns a (fun x => if x = name then some v else m x) → Heap.SameBut a s.heap h' → (∀ o, s.heap.get? a = some o → ∃ o', h'.get? a = some o' ∧ o'.cls = o.cls) → Q () { s with heap := h', toks := s.toks + 1 }) :
    wpAny M A (nsSet a name v) Q E s := fun Γ p _ => by
  obtain ⟨o, es, ep, ho, hd, hk, hm⟩ := hn
  simp only [nsSet, strHash, Sem.wp_bind', Sem.wp_cmd_ask, Sem.wp_pure', Sem.wp_cmd_mkText]
  rw [Sem.wp_loadPart_of M Γ _ p { s with toks := s.toks + 1 } (o := o) _ ho]
  have hany : es.any (·.refKey) = false := by
    rw [Array.any_eq_false']; intro e he; obtain ⟨n, t, h⟩ := hk e he; simp [DictEntry.refKey, h]
  simp only [hd, aRefKeyMayBeTheName_eq, aRefKeyMayBeTheNameByArray, hany, Bool.and_false, Bool.false_eq_true, if_false, Sem.wp_cmd_updatePart]
  obtain ⟨c, d, dt, sl⟩ := o
  subst hd
  cases hi : es.findIdx? (·.key.isStr name) with
  | some i =>
    have hg : ∀ hh key, (s.heap.update a (Obj.putName name hh key v)).get? a = some _ := fun hh key => Heap.get?_update_self _ ho (by simp only [Obj.putName_eq, Obj.putNameByArray, hi]; rfl)
    refine ⟨by rw [ho]; rfl, hQ _ ⟨_, _, ep, hg _ _, by simp only [Obj.putName_eq, Obj.putNameByArray, hi]; rfl, hk.modify _ _, fun x => ?_⟩ (Heap.SameBut.update ..) fun o' ho' => ⟨_, hg _ _, by rw [ho] at ho'; cases ho'; simp only [Obj.putName_eq, Obj.putNameByArray, hi]⟩⟩
    show _ = if x = name then some v else m x
    rw [← hm]; exact findBy_modify (fun n v => v.isStr n) Value.isStr_inj es name x v i hi
  | none =>
    have hg : ∀ hh key, (s.heap.update a (Obj.putName name hh key v)).get? a = some _ := fun hh key => Heap.get?_update_self _ ho (by simp only [Obj.putName_eq, Obj.putNameByArray, hi]; rfl)
    refine ⟨by rw [ho]; rfl, hQ _ ⟨_, _, ep + 1, hg _ _, by simp only [Obj.putName_eq, Obj.putNameByArray, hi]; rfl, hk.push _ _ _ _, fun x => ?_⟩ (Heap.SameBut.update ..) fun o' ho' => ⟨_, hg _ _, by rw [ho] at ho'; cases ho'; simp only [Obj.putName_eq, Obj.putNameByArray, hi]⟩⟩
    show _ = if x = name then some v else m x
    rw [← hm]
    exact findBy_push (fun n v => v.isStr n) es name x _ _ v (fun y => by
      show (name == y) = decide (y = name)
      by_cases h : y = name
      · subst h; simp
      · have : ¬ name = y := fun e => h e.symm
        simp [h, this]) hi
theorem storeName_localC {M : Model} {A : Around} {E : Value → Shared → Prop} {s : Shared} {env : Env} {name : Str} {m} {v : Value} {Q : Unit → Shared → Prop} (hl : env.kindOf name = some .local) (hn : s.heap.Ns env.locals m)
    (h : ∀ h', h'.Ns env.locals (fun x => if x = name then some v else m x) → Heap.SameBut env.locals s.heap h' → (∀ o, s.heap.get? env.locals = some o → ∃ o', h'.get? env.locals = some o' ∧ o'.cls = o.cls) → Q () { s with heap := h', toks := s.toks + 1 })
    (hp : (env.scope.kind == .class || (env.scope.kind == .module && env.locals != env.globals)) = false) : wpAny M A (storeName env name v) Q E s := by
  rw [storeName_local hl hp]; exact nsSetC hn h
theorem name_store (X : Sta W B₀ B ρ env cx σ s) {x : Str} {a : A} {v : Value} {σ' : S} {Q : Unit → Shared → Prop} (h : writeName cx σ x a = some σ') (hr : RA W B ρ a v)
    (k : ∀ h' tk, Ext env.locals B ρ s B ρ { s with heap := h', toks := tk } → Sta W B₀ B ρ env cx σ' { s with heap := h', toks := tk } → Q () { s with heap := h', toks := tk }) :
    wpAny M' A' (storeName env x v) Q E s := by
  have hk := X.kindOf x
  rcases wr_r h with ⟨q, rfl⟩ | ⟨i, c, q, hi, hm, rfl⟩
  · obtain ⟨m, hn, hl⟩ := X.locs
    refine storeName_localC (hk.trans q) hn (fun h' hn' hs hcls => ?_) (by rw [X.fnKind]; rfl)
    have sub : Sub B h' := fun b o e => (hs.2 b (fun z => nos ((z ▸ X.L.1).symm.trans e))).trans (X.stays b o e)
    refine k h' _ ⟨Sub.refl _, fun a o h n => nos (n.symm.trans h), ⟨[], by simp, by simp⟩, kx fun b o hb _ e => (hs.2 b hb).trans e, Nat.le_of_eq hs.1.symm, rfl, rfl⟩
      ⟨sub, X.base, X.ok, ⟨_, hn', fun y b e => ?_⟩, X.L, X.len, X.nodup, fun b hb => by rw [hs.1]; exact X.lt b hb, fun i m' hi => ?_, X.fr_of (Nat.le_of_eq hs.1.symm) hcls, X.stk.step fun F o h0 h1 h2 _ h3 h4 h5 => ⟨by
        by_cases hFL : F = env.locals
        · subst hFL
          obtain ⟨o', g1, g2⟩ := hcls o h3
          obtain ⟨o'', es, ep, g3, g4, _⟩ := hn'
          obtain rfl := Option.some.inj (g1.symm.trans g3)
          exact ⟨o', g1, g2.trans h4, es, ep, g4⟩
        · exact ⟨o, (hs.2 F hFL).trans h3, h4, h5⟩, h1, h2⟩⟩
    · have e' := (lkN_putN σ.loc x a y).symm.trans e
      by_cases z : y = x
      · rw [if_pos z] at e'
        obtain rfl := Option.some.inj e'
        exact ⟨v, by rw [if_pos z], hr⟩
      · rw [if_neg z] at e'
        obtain ⟨u, hu, hru⟩ := hl y b e'
        exact ⟨u, by rw [if_neg z]; exact hu, hru⟩
    · obtain ⟨b, h1, h2, h3⟩ := X.mem i m' hi
      exact ⟨b, h1, h2, h3.at fun o e => (hs.2 b (fun z => X.L.2 (z ▸ List.mem_of_getElem? h1))).trans e⟩
  · obtain ⟨ad, h1, h2, h3, h4⟩ := X.cellAt q hi hm
    have hc : ∃ v₀, s.heap.IsCell ad v₀ := by
      rcases c with _ | c
      · exact ⟨_, h4⟩
      · obtain ⟨x, hx, _⟩ := h4; exact ⟨_, hx⟩
    obtain ⟨v₀, hc⟩ := hc
    refine wpAny_storeName_cell X.fnKind (hk.trans q) h1 hc (fun h' hc' hs => ?_)
    obtain ⟨e1, e2⟩ := X.turn (k := s.toks) (m := some (.cell (some a))) h2 h3 (fun b o hb e => (hs.2 b hb).trans e) (Nat.le_of_eq hs.1.symm) (fun m' e => Option.some.inj e ▸ ⟨v, hc', hr⟩)
    exact k h' s.toks e1 e2
theorem thaw_ob {m : M} {v : V} {ad : Addr} (a3 : RM W B ρ s.heap ad m) (hv : thaw m = some v) : ∃ o, s.heap.get? ad = some o ∧ ∀ B', Sub B B' → B'.get? ad = some o → RV W B' v (.ref ad) := by
  rcases m with ⟨⟩
  case lst xs =>
    obtain ⟨its, ⟨k', hp'⟩, hr'⟩ := a3
    obtain rfl := Option.some.inj hv
    exact ⟨_, hp', fun B' sb hg => .list hg rfl rfl rfl (hr'.mono sb)⟩
  case dct ks vs =>
    obtain ⟨f, ws, nn, ⟨od, es, ep, hod, rr⟩, q2, q3, q4, q5, q6, q7, q8⟩ := a3
    obtain rfl := Option.some.inj hv
    exact ⟨_, hod, fun B' sb hg => .dictS ⟨_, es, ep, hg, rr⟩ q2 (q5.mono sb) q6⟩
  case itr xs => exact nos hv
  case cell c => exact nos hv
theorem Sta.thawed (X : Sta W B₀ B ρ env cx σ s) {i : Nat} {m : M} {v : V} {ad : Addr} (a1 : ρ[i]? = some ad) (a3 : RM W B ρ s.heap ad m) (hv : thaw m = some v) :
    Sta W B₀ (addTo B s.heap ad) ρ env cx ⟨σ.loc, σ.mem.set i none⟩ s ∧ Sub B (addTo B s.heap ad) ∧ RV W (addTo B s.heap ad) v (.ref ad) := by
  obtain ⟨o, ho, hr⟩ := thaw_ob a3 hv
  have sb : Sub B (addTo B s.heap ad) := fun b o' e => addTo_get (X.stays b o' e) (.inl (by rw [e]; rfl))
  have hin := List.mem_of_getElem? a1
  refine ⟨(X.drop i).freeze (a := ad) ho (fun z => X.L.2 (z ▸ hin)) (hfs := fun e he q => (X.stk.at he q).2.2 hin) fun j m' hj e => ?_, sb, hr _ sb (addTo_get (B := B) ho (.inr rfl))⟩
  obtain rfl : i = j := (List.getElem?_inj (List.getElem?_eq_some_iff.mp a1).1 X.nodup).mp (a1.trans e.symm)
  have hj' : (σ.mem.set i none)[i]? = some (some m') := hj
  rw [List.getElem?_set_self (by rw [X.len]; exact (List.getElem?_eq_some_iff.mp a1).1)] at hj'
  exact nos (Option.some.inj hj')
inductive NmR (g : Gl) (cx : Cx) (σ : S) (x : Str) (a : A) (σ' : S) : Prop
  | same (h0 : readRaw g cx σ x = some a) (h : σ = σ')
  | fz (i : Nat) (m : M) (w : V) (h0 : readRaw g cx σ x = some (.plc i)) (hm : σ.mem[i]? = some (some m)) (hv : thaw m = some w) (ha : A.val w = a) (hw : writeName cx ⟨σ.loc, σ.mem.set i none⟩ x (.val w) = some σ')
theorem nm_r {x : Str} {a : A} {σ' : S} (h : readName g cx σ x = .ok a σ') : NmR g cx σ x a σ' := by
  obtain ⟨a₀, h0, h⟩ := optB_ok h
  rcases a₀ with v | i
  · obtain ⟨rfl, rfl⟩ := ok_inj h
    exact .same h0 rfl
  · obtain ⟨m, hm, h⟩ := optB_ok h
    rcases q : thaw m with _ | w <;> rw [q] at h
    · obtain ⟨_, h⟩ := cond_tb h
      obtain ⟨rfl, rfl⟩ := ok_inj h
      exact .same h0 rfl
    · obtain ⟨τ, hw, h⟩ := optB_ok h
      obtain ⟨rfl, rfl⟩ := ok_inj h
      exact .fz i m w h0 (at_some hm) q rfl hw
theorem name_fz (X : Sta W B₀ B ρ env cx σ s) {x : Str} {i : Nat} {m : M} {w : V} {v : Value} {σ' : S} (hr : RA W B ρ (.plc i) v) (hm : σ.mem[i]? = some (some m)) (hv : thaw m = some w) (hw : writeName cx ⟨σ.loc, σ.mem.set i none⟩ x (.val w) = some σ')
    (hloc : ∀ m, s.heap.Ns env.locals m → lkN cx.scope.names x = some .local → m x = some v)
    (hcell : ∀ i c, lkN cx.scope.names x = some .cell → lkN cx.cells x = some i → ρ[i]? = some c → s.heap.IsCell c (some v)) :
    ∃ B', Ext env.locals B ρ s B' ρ s ∧ Sta W B₀ B' ρ env cx σ' s ∧ RA W B' ρ (.val w) v := by
  obtain ⟨ad, rfl, hri⟩ := RA.plc_inv hr
  obtain ⟨ad', h1, h2, h3⟩ := X.mem i _ hm
  obtain rfl : ad = ad' := Option.some.inj (hri.symm.trans h1)
  obtain ⟨Y, sb, R⟩ := X.thawed hri h3 hv
  refine ⟨addTo B s.heap ad, Ext.freeze X.stays (.inl (List.mem_of_getElem? hri)), ?_, .val R⟩
  rcases wr_r hw with ⟨q, rfl⟩ | ⟨j, c, q, hj, hmc, rfl⟩
  · exact Y.reloc fun m hn => ⟨.ref ad, hloc m hn q, .val R⟩
  · obtain ⟨cd, g1, g2, g3, g4⟩ := Y.cellAt q hj hmc
    exact Y.recell g2 g3 (hcell j cd q hj g2) (.val R)
theorem name_eval (hb : BaseOk W g B₀) (X : Sta W B₀ B ρ env cx σ s) {x : Str} {a : A} {σ' : S} {pos : Pos} {Q : Value → Shared → Prop} (h : readName g cx σ x = .ok a σ')
    (k : ∀ B' v, Ext env.locals B ρ s B' ρ s → Sta W B₀ B' ρ env cx σ' s → RA W B' ρ a v → Q v s) : wpAny M' A' (eval (.Name x pos) env) Q E s := by
  rcases nm_r h with ⟨h0, rfl⟩ | ⟨i, m, w, h0, hm, hv, rfl, hw⟩
  · exact raw_load hb X h0 fun v hr k1 k2 => k B v (Ext.refl ..) X hr
  · refine raw_load hb X h0 fun v hr k1 k2 => ?_
    obtain ⟨B', e1, e2, e3⟩ := name_fz X hr hm hv hw k1 k2
    exact k B' v e1 e2 e3
end
end

section
open PySem PySem.Calls PyProof.Rows PySem.W
set_option backward.match.sparseCases false
set_option maxRecDepth 100000
set_option linter.unusedVariables false
section
variable {W : Wd} {B : Heap}
theorem RVs.length {xs ys} (h : RVs W B xs ys) : xs.length = ys.length := by
  induction xs generalizing ys with
  | nil => rw [h.nil_inv]; rfl
  | cons v vs ih => obtain ⟨y, ys, rfl, _, h2⟩ := h.cons_inv; exact congrArg (· + 1) (ih h2)
theorem RVs.append {xs ys xs' ys'} (h : RVs W B xs ys) (h' : RVs W B xs' ys') : RVs W B (xs ++ xs') (ys ++ ys') := by
  induction xs generalizing ys with
  | nil => rw [h.nil_inv]; exact h'
  | cons v vs ih => obtain ⟨y, ys, rfl, h1, h2⟩ := h.cons_inv; exact .cons h1 (ih h2)
theorem RVs.get {xs ys} (h : RVs W B xs ys) {i : Nat} {v} (e : xs[i]? = some v) : ∃ y, ys[i]? = some y ∧ RV W B v y := by
  induction xs generalizing ys i with
  | nil => exact nos e
  | cons v vs ih =>
    obtain ⟨y, ys, rfl, h1, h2⟩ := h.cons_inv
    rcases i with _ | i
    · exact ⟨y, rfl, Option.some.inj e ▸ h1⟩
    · exact ih h2 e
theorem RVs.miss {xs ys} (h : RVs W B xs ys) {i : Nat} (e : xs[i]? = none) : ys[i]? = none := by
  rw [List.getElem?_eq_none_iff] at e ⊢
  rw [← h.length]; exact e
theorem RVs.pick {xs ys} (h : RVs W B xs ys) (is : List Nat) : RVs W B (is.filterMap (xs[·]?)) (is.filterMap (ys[·]?)) := by
  induction is with
  | nil => exact .nil
  | cons i r ih =>
    rw [List.filterMap_cons, List.filterMap_cons]
    rcases e : xs[i]? with _ | v
    · rw [h.miss e]; exact ih
    · obtain ⟨y, hy, hr⟩ := h.get e
      rw [hy]
      exact .cons hr ih
theorem RVs.slice {xs : List V} {items : Array Value} (h : RVs W B xs items.toList) (lo hi st : Option Int) : RVs W B (pickL xs lo hi st) (slicePick items lo hi st).toList := by
  unfold pickL slicePick
  have e : xs.length = items.size := by rw [h.length]; simp
  have q : (fun i : Nat => items[i]?) = fun i : Nat => items.toList[i]? := by funext i; simp
  rw [e, q]
  exact h.pick _
theorem RVs.replicate {v y} (h : RV W B v y) : ∀ n, RVs W B (List.replicate n v) (List.replicate n y)
  | 0 => .nil
  | n + 1 => .cons h (RVs.replicate h n)
theorem RVs.ints {xs ys} (h : RVs W B xs ys) {is} (e : intsOf xs = some is) : IntsAre ys is := by
  induction xs generalizing ys is with
  | nil => rw [h.nil_inv, ← Option.some.inj e]; exact .nil
  | cons v vs ih =>
    obtain ⟨y, ys, rfl, h1, h2⟩ := h.cons_inv
    rcases v with ⟨⟩ <;> first | exact nos e | skip
    obtain ⟨js, hj, rfl⟩ := omap e
    obtain ⟨_, rfl⟩ := h1.int_inv
    exact .cons _ _ (ih h2 hj)
theorem RVs.strs {xs ys} (h : RVs W B xs ys) {is} (e : strsOf xs = some is) : StrsAre ys is := by
  induction xs generalizing ys is with
  | nil => rw [h.nil_inv, ← Option.some.inj e]; exact .nil
  | cons v vs ih =>
    obtain ⟨y, ys, rfl, h1, h2⟩ := h.cons_inv
    rcases v with ⟨⟩ <;> first | exact nos e | skip
    obtain ⟨js, hj, rfl⟩ := omap e
    obtain ⟨_, rfl⟩ := h1.str_inv
    exact .cons _ _ (ih h2 hj)
theorem RVs.of_strs {ys is} (h : StrsAre ys is) : RVs W B (is.map V.str) ys := by
  induction h with
  | nil => exact .nil
  | cons _ _ _ ih => exact .cons .str ih
theorem RVs.set {xs ys} (h : RVs W B xs ys) {v y} (hv : RV W B v y) (i : Nat) : RVs W B (xs.set i v) (ys.set i y) := by
  induction xs generalizing ys i with
  | nil => rw [h.nil_inv]; exact .nil
  | cons u us ih =>
    obtain ⟨z, ys, rfl, h1, h2⟩ := h.cons_inv
    rcases i with _ | i
    · exact .cons hv h2
    · exact .cons h1 (ih h2 i)
theorem RVs.lk {vs ws} (h : RVs W B vs ws) {ks k v} (e : lkV ks vs k = some v) : ∃ y, lkW ks ws k = some y ∧ RV W B v y := by
  induction vs generalizing ws ks with
  | nil => rcases ks with _ | _ <;> exact nos e
  | cons u us ih =>
    obtain ⟨z, ws, rfl, h1, h2⟩ := h.cons_inv
    rcases ks with _ | ⟨k', ks⟩
    · exact nos e
    · change cond (keyEq k k') (some u) (lkV ks us k) = some v at e
      show ∃ y, cond (keyEq k k') (some z) (lkW ks ws k) = some y ∧ _
      rcases q : keyEq k k' with _ | _ <;> rw [q] at e
      · exact ih h2 e
      · exact ⟨z, rfl, Option.some.inj e ▸ h1⟩
theorem RVs.lk_none {vs ws} (h : RVs W B vs ws) {ks k} (e : lkV ks vs k = none) : lkW ks ws k = none := by
  induction vs generalizing ws ks with
  | nil => rw [h.nil_inv]; rcases ks with _ | _ <;> rfl
  | cons u us ih =>
    obtain ⟨z, ws, rfl, h1, h2⟩ := h.cons_inv
    rcases ks with _ | ⟨k', ks⟩
    · rfl
    · change cond (keyEq k k') (some u) (lkV ks us k) = none at e
      show cond (keyEq k k') (some z) (lkW ks ws k) = none
      rcases q : keyEq k k' with _ | _ <;> rw [q] at e
      · exact ih h2 e
      · exact son e
end
noncomputable abbrev Kont (W : Wd) (B₀ : Heap) (env : Env) (cx : Cx) (B : Heap) (ρ : List Addr) (σ : S) (s : Shared) (c : V) (Q : Value → Shared → Prop) : Prop :=
  ∀ B' s' v, Ext env.locals B ρ s B' ρ s' → Sta W B₀ B' ρ env cx σ s' → RV W B' c v → Q v s'
section
variable {W : Wd} {g : Gl} {B₀ B : Heap} {ρ : List Addr} {env : Env} {cx : Cx} {σ : S} {s : Shared} {A' : Around} {E : Value → Shared → Prop} {Q : Value → Shared → Prop} {n : Nat}
theorem Kont.toks {c : V} (X : Sta W B₀ B ρ env cx σ s) (k : Kont W B₀ env cx B ρ σ s c Q) {v : Value} (t : Nat) (h : RV W B c v) : Q v { s with toks := t } :=
  k B _ v (Ext.grow (Sub.refl _) (Nat.le_refl _)) (X.grow (Sub.refl _) (Nat.le_refl _)) h
theorem Kont.here {c : V} (X : Sta W B₀ B ρ env cx σ s) (k : Kont W B₀ env cx B ρ σ s c Q) {v : Value} (h : RV W B c v) : Q v s :=
  k B _ v (Ext.refl ..) X h
theorem Kont.push {c : V} (X : Sta W B₀ B ρ env cx σ s) (k : Kont W B₀ env cx B ρ σ s c Q) {o : Obj} (t : Nat) (hf : o.isFreed = false)
    (h : ∀ B', Sub B B' → B'.get? s.heap.objs.size = some o → RV W B' c (.ref s.heap.objs.size)) : Q (.ref s.heap.objs.size) { s with heap := s.heap.push o, toks := t } := by
  obtain ⟨B', e, Y, hB⟩ := X.made (k := t) (h' := s.heap.push o) (fun b o' q => Heap.get?_push_of_some _ q) (by simp) (Heap.get?_push_size _ hf) (Nat.le_refl _)
  exact k B' _ _ e Y (h B' e.sub hB)
theorem Kont.push2 {c : V} (X : Sta W B₀ B ρ env cx σ s) (k : Kont W B₀ env cx B ρ σ s c Q) {o₁ o : Obj} (t : Nat) (hf : o.isFreed = false)
    (h : ∀ B', Sub B B' → B'.get? (s.heap.objs.size + 1) = some o → RV W B' c (.ref (s.heap.objs.size + 1))) : Q (.ref (s.heap.objs.size + 1)) { s with heap := (s.heap.push o₁).push o, toks := t } := by
  have z : (s.heap.push o₁).objs.size = s.heap.objs.size + 1 := by simp
  obtain ⟨B', e, Y, hB⟩ := X.made (k := t) (h' := (s.heap.push o₁).push o) (a := s.heap.objs.size + 1) (fun b o' q => Heap.get?_push_of_some _ (Heap.get?_push_of_some _ q)) (by simp; omega) (z ▸ Heap.get?_push_size _ hf) (Nat.le_succ _)
  exact k B' _ _ e Y (h B' e.sub hB)
theorem RV.newList {xs : List V} {items : Array Value} {B' : Heap} {a : Addr} {n : Nat} (h : B'.get? a = some { cls := .type "list", data := .seq items n }) (r : RVs W B' xs items.toList) : RV W B' (.list xs) (.ref a) :=
  .list h rfl rfl rfl r
theorem RV.isList {xs : List V} {v : Value} (h : RV W B (.list xs) v) : ∃ a items, v = .ref a ∧ B.IsList a items ∧ RVs W B xs items.toList ∧ (∃ o, B.get? a = some o ∧ o.dict = Option.none) := by
  obtain ⟨a, o, items, n, rfl, h1, h2, h3, h4, h5⟩ := h.list_inv
  exact ⟨a, items, rfl, ⟨o, h1, h2, n, h4⟩, h5, o, h1, h3⟩
theorem Sta.list (X : Sta W B₀ B ρ env cx σ s) {a : Addr} {items} (h : B.IsList a items) : s.heap.IsList a items := Heap.IsList.sub h X.stays
theorem smallI_bits {i : Int} (h : smallI i = true) : Builtin.Int.intBits i ≤ 64 := by
  unfold smallI at h
  have := Nat.le_of_ble_eq_true h
  exact PySem.intBits_le_64 (by omega) (by omega)
inductive BinR : Operator → V → V → V → Prop
  | addI (x y : Int) : BinR .Add (.int x) (.int y) (.int (x + y))
  | addS (x y : Str) (h : x.length + y.length ≤ 1100000) : BinR .Add (.str x) (.str y) (.str (x ++ y))
  | addL (x y : List V) (h : x.length + y.length ≤ 1100000) : BinR .Add (.list x) (.list y) (.list (x ++ y))
  | sub (x y : Int) : BinR .Sub (.int x) (.int y) (.int (x - y))
  | mul (x y : Int) (h : smallI x = true ∨ smallI y = true) : BinR .Mult (.int x) (.int y) (.int (x * y))
  | fdiv (x y : Int) (h : y.natAbs ≠ 0) (h2 : y.natAbs < 1000000) : BinR .FloorDiv (.int x) (.int y) (.int (x.fdiv y))
  | mod (x y : Int) (h : y.natAbs ≠ 0) : BinR .Mod (.int x) (.int y) (.int (x.fmod y))
  | and (x y : Int) : BinR .BitAnd (.int x) (.int y) (.int (Builtin.bitAnd x y))
  | or (x y : Int) : BinR .BitOr (.int x) (.int y) (.int (Builtin.bitOr x y))
  | xor (x y : Int) : BinR .BitXor (.int x) (.int y) (.int (Builtin.bitXor x y))
  | shl (x : Int) (n : Nat) (h : x.natAbs ≤ 9223372036854775807) (h2 : n ≤ 1000) : BinR .LShift (.int x) (.int (.ofNat n)) (.int (x * 2 ^ n))
  | pow (x : Int) (n : Nat) (h : smallI x = true) (h2 : n ≤ 1000) : BinR .Pow (.int x) (.int (.ofNat n)) (.int (x ^ n))
theorem binII {f : Int → Int → Option V} {a b c : V} {P : V → V → V → Prop} (h : onI (fun x => onI (f x) b) a = some c) (k : ∀ x y, f x y = some c → P (.int x) (.int y) c) : P a b c := by
  obtain ⟨x, rfl, h1⟩ := onI_inv h
  obtain ⟨y, rfl, h2⟩ := onI_inv h1
  exact k x y h2
theorem binIs {f : Int → Int → V} {a b c : V} {P : V → V → V → Prop} (h : onI (fun x => onI (fun y => some (f x y)) b) a = some c) (k : ∀ x y, P (.int x) (.int y) (f x y)) : P a b c :=
  binII h fun x y e => Option.some.inj e ▸ k x y
theorem binop_r {op : Operator} {a b c : V} (h : binop op a b = some c) : BinR op a b c := by
  rcases op with ⟨⟩
  case Add =>
    rcases onBISL_inv h with ⟨_, _, h⟩ | ⟨x, rfl, h1⟩ | ⟨x, rfl, h1⟩ | ⟨x, rfl, h1⟩
    · exact nos h
    · obtain ⟨y, rfl, h2⟩ := onI_inv h1
      exact Option.some.inj h2 ▸ .addI x y
    · obtain ⟨y, rfl, h2⟩ := onS_inv h1
      obtain ⟨hz, rfl⟩ := conds h2
      exact .addS x y (Nat.le_of_ble_eq_true hz)
    · obtain ⟨y, rfl, h2⟩ := onL_inv h1
      obtain ⟨hz, rfl⟩ := conds h2
      exact .addL x y (Nat.le_of_ble_eq_true hz)
  case Sub => exact binIs h .sub
  case Mult =>
    refine binII h fun x y h => ?_
    obtain ⟨hz, rfl⟩ := conds h
    exact .mul x y (Bool.or_eq_true_iff.mp hz)
  case Mod =>
    refine binII h fun x y h => ?_
    obtain ⟨hz, rfl⟩ := condf h
    exact .mod x y (Nat.ne_of_beq_eq_false hz)
  case FloorDiv =>
    refine binII h fun x y h => ?_
    obtain ⟨hz, rfl⟩ := condf h
    have hz := Bool.or_eq_false_iff.mp hz
    exact .fdiv x y (Nat.ne_of_beq_eq_false hz.1) (by simpa using hz.2)
  case Pow =>
    refine binII h fun x y h => ?_
    obtain ⟨n, rfl, h1⟩ := natOf_inv h
    obtain ⟨hz, rfl⟩ := conds h1
    have hz := Bool.and_eq_true_iff.mp hz
    exact .pow x n hz.1 (Nat.le_of_ble_eq_true hz.2)
  case LShift =>
    refine binII h fun x y h => ?_
    obtain ⟨n, rfl, h1⟩ := natOf_inv h
    obtain ⟨hz, rfl⟩ := conds h1
    have hz := Bool.and_eq_true_iff.mp hz
    exact .shl x n (Nat.le_of_ble_eq_true hz.1) (Nat.le_of_ble_eq_true hz.2)
  case BitAnd => exact binIs h .and
  case BitOr => exact binIs h .or
  case BitXor => exact binIs h .xor
  all_goals exact nos h
theorem ops_int {a b : Int} {x y : Value} {P : Value → Value → Prop} (ha : RV W B (.int a) x) (hb : RV W B (.int b) y) (h : ∀ t u, P (.int a t) (.int b u)) : P x y := by
  obtain ⟨t, rfl⟩ := ha.int_inv
  obtain ⟨u, rfl⟩ := hb.int_inv
  exact h t u
theorem lists_add (X : Sta W B₀ B ρ env cx σ s) {p q : List V} {x y : Value} (ha : RV W B (.list p) x) (hy : RV W B (.list q) y) (hle : p.length + q.length ≤ 1100000)
    (k : Kont W B₀ env cx B ρ σ s (.list (p ++ q)) Q) : wpAny (model W.prog W.w) A' (binaryOp .Add x y) Q E s := by
  obtain ⟨l, its, rfl, hl, hi, _⟩ := ha.isList
  obtain ⟨l2, its2, rfl, hl2, hi2, _⟩ := hy.isList
  obtain ⟨⟨cls, dd, data, sl⟩, ho, rfl, n, rfl⟩ := X.list hl
  obtain ⟨⟨cls2, dd2, data2, sl2⟩, ho2, rfl, n2, rfl⟩ := X.list hl2
  have e1 := hi.length
  have e2 := hi2.length
  refine concat_meets ⟨_, ho, rfl⟩ ⟨_, ho2, rfl⟩ noFill_list_add seq_list_add PySem.F.slot_list_add PySem.F.entry_list_add (PySem.F.args_list_add_2 _ _) (list_addW l l2 its its2 n n2 dd dd2 sl sl2 (by
    simp at e1 e2
    unfold sizeLine; omega)) ⟨ho, ho2, ?_⟩
  refine k.push X _ rfl fun B' sb hB => RV.newList hB ?_
  rw [Array.toList_append]
  exact (hi.mono sb).append (hi2.mono sb)
theorem binop_sound (X : Sta W B₀ B ρ env cx σ s) {op : Operator} {a b c : V} {x y : Value} (ha : RV W B a x) (hy : RV W B b y) (h : binop op a b = some c)
    (k : Kont W B₀ env cx B ρ σ s c Q) : wpAny (model W.prog W.w) A' (binaryOp op x y) Q E s := by
  have r := binop_r h
  clear h
  rcases r with ⟨p, q⟩ | ⟨p, q, h⟩ | ⟨p, q, h⟩ | ⟨p, q⟩ | ⟨p, q, h⟩ | ⟨p, q, h, h2⟩ | ⟨p, q, h⟩ | ⟨p, q⟩ | ⟨p, q⟩ | ⟨p, q⟩ | ⟨p, q, h, h2⟩ | ⟨p, q, h, h2⟩
  · exact ops_int (P := fun x y => wpAny _ A' (binaryOp _ x y) Q E s) ha hy fun t u => add_int (k.toks X _ .int)
  · obtain ⟨t, rfl⟩ := ha.str_inv
    obtain ⟨u, rfl⟩ := hy.str_inv
    exact PyProof.Rows.add_str (fun t' tk => k.toks X _ .str) (by unfold sizeLine; omega)
  · exact lists_add X ha hy h k
  · exact ops_int (P := fun x y => wpAny _ A' (binaryOp _ x y) Q E s) ha hy fun t u => sub_int (k.toks X _ .int)
  · exact ops_int (P := fun x y => wpAny _ A' (binaryOp _ x y) Q E s) ha hy fun t u => PyProof.Rows.mul_int (k.toks X _ .int) (h.elim (fun z => IntMulOk.of_left (smallI_bits z)) fun z => IntMulOk.of_right (smallI_bits z))
  · exact ops_int (P := fun x y => wpAny _ A' (binaryOp _ x y) Q E s) ha hy fun t u => PyProof.Rows.floordiv_int (by omega) (k.toks X _ .int) (.inl (PyProof.noPylong_small (by omega)))
  · exact ops_int (P := fun x y => wpAny _ A' (binaryOp _ x y) Q E s) ha hy fun t u => mod_int' (by omega) (k.toks X _ .int)
  · exact ops_int (P := fun x y => wpAny _ A' (binaryOp _ x y) Q E s) ha hy fun t u => and_int (k.toks X _ .int)
  · exact ops_int (P := fun x y => wpAny _ A' (binaryOp _ x y) Q E s) ha hy fun t u => or_int (k.toks X _ .int)
  · exact ops_int (P := fun x y => wpAny _ A' (binaryOp _ x y) Q E s) ha hy fun t u => xor_int (k.toks X _ .int)
  · exact ops_int (P := fun x y => wpAny _ A' (binaryOp _ x y) Q E s) ha hy fun t u => lshift_int_small (Int.natCast_nonneg q) (by show (q : Int) ≤ _; omega) (by omega) (k.toks X _ .int)
  · refine ops_int (P := fun x y => wpAny _ A' (binaryOp _ x y) Q E s) ha hy fun t u => pow_int (Int.natCast_nonneg q) ?_ (k.toks X _ .int)
    show (Builtin.Int.intBits p : Int) * (q : Int) ≤ _
    have : Builtin.Int.intBits p * q ≤ 64 * 1000 := Nat.mul_le_mul (smallI_bits h) h2
    omega
end
end

section
open PySem PySem.Calls PyProof.Rows PySem.W
set_option backward.match.sparseCases false
set_option maxRecDepth 100000
set_option linter.unusedVariables false
theorem ss_canLayAll0 : ∀ ns : List Str, shorts ns = true → PyData.canLayAll0 (ns.map PyData.str) = true
  | [], _ => rfl
  | x :: r, h => by
    simp only [shorts, Bool.and_eq_true] at h
    have e : PyData.strOk x = true := by
      unfold PyData.strOk
      have := h.1
      rw [List.all_eq_true] at this
      rw [Array.all_eq_true]
      intro i hi
      have q := this x.cps[i] (by simp)
      simpa using q
    simp [PyData.canLayAll0, PyData.canLay0, ss_canLayAll0 r h.2, e]
theorem ss_depthAll : ∀ ns : List Str, PyData.depthAll (ns.map PyData.str) = 0
  | [] => rfl
  | _ :: r => by simp [PyData.depthAll, PyData.depth, ss_depthAll r]
theorem ss_shaped (ns : List Str) (h : shorts ns = true) : SeqAt.shaped (.list (ns.map PyData.str)) = true := by
  simp [SeqAt.shaped, PyData.canLay0, PyData.depth, ss_canLayAll0 ns h, ss_depthAll]
theorem ss_sameAll : ∀ ns ms : List Str, PySem.Spec.sameAll (ns.map PyData.str) (ms.map PyData.str) = decide (ns = ms)
  | [], [] => by simp [PySem.Spec.sameAll]
  | [], _ :: _ => by simp [PySem.Spec.sameAll]
  | _ :: _, [] => by simp [PySem.Spec.sameAll]
  | a :: r, b :: t => by
    simp only [List.map_cons, PySem.Spec.sameAll, PySem.Spec.same, ss_sameAll r t]
    by_cases h : a = b <;> by_cases h' : r = t <;> simp [h, h']
theorem ss_same (ns ms : List Str) : PySem.Spec.same (.list (ns.map PyData.str)) (.list (ms.map PyData.str)) = decide (ns = ms) := by
  simp only [PySem.Spec.same]; exact ss_sameAll ns ms
theorem ss_carried : ∀ {vs : List Value} {ns : List Str}, StrsAre vs ns → CarriedAll vs (ns.map PyData.str)
  | _, _, .nil => .nil
  | _, _, .cons _ t r => .cons (.str _ t) (ss_carried r)
section
variable {prog : Program} {w : World} {A : Around} {E : Value → Shared → Prop} {s : Shared} {a b : Addr} {xs ys : List Value} {ns ms : List Str} {Q : Value → Shared → Prop}
theorem ss_eq (ha : s.heap.IsList a xs.toArray) (hb : s.heap.IsList b ys.toArray) (hi : StrsAre xs ns) (hj : StrsAre ys ms) (h1 : shorts ns = true) (h2 : shorts ms = true) (hu : A.units + 64 < cLine) (h : Q (.bool (decide (ns = ms))) s) :
    wpAny (model prog w) A (compareOp .Eq (.ref a) (.ref b)) Q E s :=
  eq_dataH_same (reads_newData ha (ss_carried hi)) (reads_newData hb (ss_carried hj)) (ss_shaped _ h1) (ss_shaped _ h2) hu (SeqAt.noMix_of_shape (.list .str) rfl _ _ (list_map_has fun _ => rfl) (list_map_has fun _ => rfl)) (by rw [ss_same]; exact h)
theorem ss_ne (ha : s.heap.IsList a xs.toArray) (hb : s.heap.IsList b ys.toArray) (hi : StrsAre xs ns) (hj : StrsAre ys ms) (h1 : shorts ns = true) (h2 : shorts ms = true) (hu : A.units + 64 < cLine) (h : Q (.bool (!decide (ns = ms))) s) :
    wpAny (model prog w) A (compareOp .NotEq (.ref a) (.ref b)) Q E s :=
  ne_dataH_same (reads_newData ha (ss_carried hi)) (reads_newData hb (ss_carried hj)) (ss_shaped _ h1) (ss_shaped _ h2) hu (SeqAt.noMix_of_shape (.list .str) rfl _ _ (list_map_has fun _ => rfl) (list_map_has fun _ => rfl)) (by rw [ss_same]; exact h)
end
theorem lkW_isSome {W : Wd} {B : Heap} {ks : List V} {vs : List V} {ws : List Value} (h : RVs W B vs ws) (k : V) : (lkW ks ws k).isSome = (lkV ks vs k).isSome := by
  cases e : lkV ks vs k with
  | none => rw [h.lk_none e]; rfl
  | some v => obtain ⟨y, hy, _⟩ := h.lk e; rw [hy]; rfl
section
variable {W : Wd} {g : Gl} {B₀ B : Heap} {ρ : List Addr} {env : Env} {cx : Cx} {σ : S} {s : Shared} {A' : Around} {E : Value → Shared → Prop} {n : Nat}
inductive CmpR : CmpOp → V → V → Bool → Prop
  | eqI (x y : Int) : CmpR .Eq (.int x) (.int y) (decide (x = y))
  | eqS (x y : Str) : CmpR .Eq (.str x) (.str y) (nEq x y)
  | eqL (x y : List V) (p q : List Str) (h1 : strsOf x = some p) (h2 : strsOf y = some q) (h3 : shorts p = true) (h4 : shorts q = true) : CmpR .Eq (.list x) (.list y) (decide (p = q))
  | neB (x y : Bool) : CmpR .NotEq (.bool x) (.bool y) (x != y)
  | neI (x y : Int) : CmpR .NotEq (.int x) (.int y) (!decide (x = y))
  | neS (x y : Str) : CmpR .NotEq (.str x) (.str y) (!nEq x y)
  | neL (x y : List V) (p q : List Str) (h1 : strsOf x = some p) (h2 : strsOf y = some q) (h3 : shorts p = true) (h4 : shorts q = true) : CmpR .NotEq (.list x) (.list y) (!decide (p = q))
  | lt (x y : Int) : CmpR .Lt (.int x) (.int y) (decide (x < y))
  | gt (x y : Int) : CmpR .Gt (.int x) (.int y) (decide (y < x))
  | ge (x y : Int) : CmpR .GtE (.int x) (.int y) (decide (y ≤ x))
  | inL (x : Int) (ys : List V) (is : List Int) (h : intsOf ys = some is) : CmpR .In (.int x) (.list ys) (is.any fun z => decide (x = z))
  | inS (x y : Str) : CmpR .In (.str x) (.str y) (!(Builtin.Str.occurrences y x 0 y.length 1).isEmpty)
  | inD (x : Str) (ks vs : List V) : CmpR .In (.str x) (.dict true ks vs) (lkV ks vs (.str x)).isSome
  | niS (x y : Str) : CmpR .NotIn (.str x) (.str y) (!(!(Builtin.Str.occurrences y x 0 y.length 1).isEmpty))
theorem cmpII {f : Int → Int → Bool} {a b : V} {c : Bool} {P : V → V → Bool → Prop} (h : onI (fun x => onI (fun y => some (f x y)) b) a = some c) (k : ∀ x y, P (.int x) (.int y) (f x y)) : P a b c := by
  obtain ⟨x, rfl, h1⟩ := onI_inv h
  obtain ⟨y, rfl, h2⟩ := onI_inv h1
  exact Option.some.inj h2 ▸ k x y
theorem strs2_inv {x y : List V} {f : List Str → List Str → Bool} {c : Bool} {P : Bool → Prop} (h : strs2 x y f = some c) (k : ∀ p q, strsOf x = some p → strsOf y = some q → shorts p = true → shorts q = true → P (f p q)) : P c := by
  unfold strs2 at h
  rcases e1 : strsOf x with _ | p <;> rw [e1] at h
  · exact nos h
  · rcases e2 : strsOf y with _ | q <;> rw [e2] at h
    · exact nos h
    · obtain ⟨hz, rfl⟩ := conds h
      have hz := Bool.and_eq_true_iff.mp hz
      exact k p q e1 e2 hz.1 hz.2
theorem cmp_r {op : CmpOp} {a b : V} {c : Bool} (h : cmp op a b = some c) : CmpR op a b c := by
  rcases op with ⟨⟩
  case Eq =>
    rcases onBISL_inv h with ⟨_, _, h⟩ | ⟨x, rfl, h1⟩ | ⟨x, rfl, h1⟩ | ⟨x, rfl, h1⟩
    · exact nos h
    · obtain ⟨y, rfl, h2⟩ := onI_inv h1
      exact Option.some.inj h2 ▸ .eqI x y
    · obtain ⟨y, rfl, h2⟩ := onS_inv h1
      exact Option.some.inj h2 ▸ .eqS x y
    · obtain ⟨y, rfl, h2⟩ := onL_inv h1
      exact strs2_inv h2 (.eqL x y)
  case NotEq =>
    rcases onBISL_inv h with ⟨x, rfl, h1⟩ | ⟨x, rfl, h1⟩ | ⟨x, rfl, h1⟩ | ⟨x, rfl, h1⟩
    · rcases onBISL_inv h1 with ⟨y, rfl, h2⟩ | ⟨_, _, h2⟩ | ⟨_, _, h2⟩ | ⟨_, _, h2⟩
      · exact Option.some.inj h2 ▸ .neB x y
      all_goals exact nos h2
    · obtain ⟨y, rfl, h2⟩ := onI_inv h1
      exact Option.some.inj h2 ▸ .neI x y
    · obtain ⟨y, rfl, h2⟩ := onS_inv h1
      exact Option.some.inj h2 ▸ .neS x y
    · obtain ⟨y, rfl, h2⟩ := onL_inv h1
      exact strs2_inv h2 (.neL x y)
  case Lt => exact cmpII h .lt
  case Gt => exact cmpII h .gt
  case GtE => exact cmpII h .ge
  case In =>
    rcases onBISL_inv h with ⟨_, _, h⟩ | ⟨x, rfl, h1⟩ | ⟨x, rfl, h1⟩ | ⟨_, _, h⟩
    · exact nos h
    · obtain ⟨ys, rfl, h2⟩ := onL_inv h1
      obtain ⟨is, h3, rfl⟩ := omap h2
      exact .inL x ys is h3
    · rcases onSD_inv h1 with ⟨y, rfl, h2⟩ | ⟨ks, vs, rfl, h2⟩
      · exact Option.some.inj h2 ▸ .inS x y
      · exact Option.some.inj h2 ▸ .inD x ks vs
    · exact nos h
  case NotIn =>
    obtain ⟨x, rfl, h1⟩ := onS_inv h
    obtain ⟨y, rfl, h2⟩ := onS_inv h1
    exact Option.some.inj h2 ▸ .niS x y
  all_goals exact nos h
theorem ops_str {a b : Str} {x y : Value} {P : Value → Value → Prop} (ha : RV W B (.str a) x) (hb : RV W B (.str b) y) (h : ∀ t u, P (.str a t) (.str b u)) : P x y := by
  obtain ⟨t, rfl⟩ := ha.str_inv
  obtain ⟨u, rfl⟩ := hb.str_inv
  exact h t u
theorem cmp_sound (hA : Room W A' n) (X : Sta W B₀ B ρ env cx σ s) {op : CmpOp} {a b : V} {c : Bool} {x y : Value} {Q : Value → Shared → Prop} (ha : RV W B a x) (hy : RV W B b y) (h : cmp op a b = some c)
    (k : ∀ t, Q (.bool c) { s with toks := t }) : wpAny (model W.prog W.w) A' (compareOp op x y) Q E s := by
  have hu : A'.units + 64 < cLine := by have := hA.2.2.1; unfold cLine; omega
  have r := cmp_r h
  clear h
  rcases r with ⟨p, q⟩ | ⟨p, q⟩ | ⟨p, q, ss, ts, h1, h2, h3, h4⟩ | ⟨p, q⟩ | ⟨p, q⟩ | ⟨p, q⟩ | ⟨p, q, ss, ts, h1, h2, h3, h4⟩ | ⟨p, q⟩ | ⟨p, q⟩ | ⟨p, q⟩ | ⟨p, ys, is, h⟩ | ⟨p, q⟩ | ⟨p, ks, vs⟩ | ⟨p, q⟩
  · exact ops_int (P := fun x y => wpAny _ A' (compareOp _ x y) Q E s) ha hy fun t u => PyProof.Rows.eq_int (k _)
  · exact ops_str (P := fun x y => wpAny _ A' (compareOp _ x y) Q E s) ha hy fun t u => PyProof.Rows.eq_str (by rw [← nEq_beq]; exact k _)
  · obtain ⟨l, its, rfl, hl, hi, _⟩ := ha.isList
    obtain ⟨l2, its2, rfl, hl2, hi2, _⟩ := hy.isList
    exact ss_eq (X.list hl) (X.list hl2) (hi.strs h1) (hi2.strs h2) h3 h4 hu (k _)
  · obtain rfl := ha.bool_inv
    obtain rfl := hy.bool_inv
    exact ne_bool (k _)
  · exact ops_int (P := fun x y => wpAny _ A' (compareOp _ x y) Q E s) ha hy fun t u => PyProof.Rows.ne_int (k _)
  · refine ops_str (P := fun x y => wpAny _ A' (compareOp _ x y) Q E s) ha hy fun t u => PyProof.Rows.ne_str ?_
    show Q (.bool (!(_ == _))) _
    rw [← nEq_beq]; exact k _
  · obtain ⟨l, its, rfl, hl, hi, _⟩ := ha.isList
    obtain ⟨l2, its2, rfl, hl2, hi2, _⟩ := hy.isList
    exact ss_ne (X.list hl) (X.list hl2) (hi.strs h1) (hi2.strs h2) h3 h4 hu (k _)
  · exact ops_int (P := fun x y => wpAny _ A' (compareOp _ x y) Q E s) ha hy fun t u => PyProof.Rows.lt_int (k _)
  · exact ops_int (P := fun x y => wpAny _ A' (compareOp _ x y) Q E s) ha hy fun t u => PyProof.Rows.gt_int (k _)
  · exact ops_int (P := fun x y => wpAny _ A' (compareOp _ x y) Q E s) ha hy fun t u => PyProof.Rows.ge_int (k _)
  · obtain ⟨t, rfl⟩ := ha.int_inv
    obtain ⟨l, its, rfl, hl, hi, _⟩ := hy.isList
    refine in_list_ints (X.list hl) (hi.ints h) ?_
    have : (is.any fun x => x == p) = is.any fun z => decide (p = z) := congrArg is.any (funext fun z => decide_eq_decide.mpr eq_comm)
    rw [this]; exact k _
  · exact ops_str (P := fun x y => wpAny _ A' (compareOp _ x y) Q E s) ha hy fun t u => PyProof.Rows.in_str (k _)
  · obtain ⟨t, rfl⟩ := ha.str_inv
    obtain ⟨ad, f, ws, rfl, m1, m2, m3, m4⟩ := hy.dictS_inv
    refine wpAny_in_of (knd := strKind W.prog W.w) (strKind_is _ _ _ _) (beq_eq_false_iff_ne.mpr m2) (Heap.MapOf.sub m1 X.stays) ?_
    rw [m4, lkW_isSome m3]
    exact k _
  · exact ops_str (P := fun x y => wpAny _ A' (compareOp _ x y) Q E s) ha hy fun t u => PyProof.Rows.notIn_str (k _)
theorem truth_sound {a : V} {c : Bool} {x : Value} {Q : Bool → Shared → Prop} (ha : RV W B a x) (h : truth a = some c) (k : ∀ t, Q c { s with toks := t }) : wpAny (model W.prog W.w) A' (truthy x) Q E s := by
  rcases onBISL_inv h with ⟨b, rfl, h⟩ | ⟨i, rfl, h⟩ | ⟨t, rfl, h⟩ | ⟨_, _, h⟩
  · obtain rfl := ha.bool_inv
    exact wpAny_truthy_bool (Option.some.inj h ▸ k s.toks)
  · obtain ⟨t, rfl⟩ := ha.int_inv
    refine PyProof.Rows.truthy_int ?_
    have : (i != 0) = !Nat.beq i.natAbs 0 := by
      rw [BT.beq_eq]
      by_cases hi : i = 0
      · subst hi; rfl
      · have : i.natAbs ≠ 0 := by omega
        simp [hi]
    rw [this, Option.some.inj h]; exact k _
  · obtain ⟨x, rfl⟩ := ha.str_inv
    obtain ⟨hz, rfl⟩ := conds h
    have hl : t.length ≤ 1100000 := Nat.le_of_ble_eq_true hz
    refine PySem.P.truthy_str (by omega) ?_
    have : ((t.length : Int) != 0) = !Nat.beq t.length 0 := by
      rw [BT.beq_eq]
      by_cases hi : t.length = 0
      · simp [hi]
      · simp [hi]
    rw [this]; exact k _
  · exact nos h
noncomputable def ItemAt (s : Shared) (M' : Model) (A' : Around) (E : Value → Shared → Prop) (x y : Value) (Q : Value → Shared → Prop) : Prop :=
  ∃ T id, s.TypeIs x T ∧ typeLookup (.type T) "__getitem__" = pure (some (.builtin id)) ∧ wpAny M' A' (getItem x y) Q E s
theorem ixList {b c : V} {xs : List V} {its : Array Value} {l : Addr} {y : Value} {Q : Value → Shared → Prop} (hl : s.heap.IsList l its) (hi : RVs W B xs its.toList) (hy : RV W B b y)
    (h : getIx (.list xs) b = some c) (k : ∀ v, RV W B c v → Q v s) : ItemAt s (model W.prog W.w) A' E (.ref l) y Q := by
  obtain ⟨i, rfl, h1⟩ := onI_inv h
  obtain ⟨_, rfl⟩ := hy.int_inv
  rcases i with i | i
  · obtain ⟨hz, h2⟩ := condn h1
    have hle := Nat.le_of_ble_eq_true hz
    obtain ⟨v, hv, hr⟩ := hi.get h2
    exact ⟨"list", _, hl.typeIs, slot_list_getitem.lookup, wpAny_getItem_list hl (Int.natCast_nonneg i) (by show (i : Int) < _; omega) (x := v) (by simpa using hv) (k v hr)⟩
  · obtain ⟨hz, h2⟩ := condn h1
    have hz := Bool.and_eq_true_iff.mp hz
    have hle := Nat.le_of_ble_eq_true hz.1
    have hle2 := Nat.le_of_ble_eq_true hz.2
    obtain ⟨v, hv, hr⟩ := hi.get h2
    have e1 : xs.length = its.size := by rw [hi.length]; simp
    refine ⟨"list", _, hl.typeIs, slot_list_getitem.lookup, wpAny_getItem_list_neg hl (Int.negSucc_lt_zero i) (by rw [Int.negSucc_eq]; omega) (by rw [Int.negSucc_eq]; omega) (x := v) ?_ (k v hr)⟩
    have : (Int.negSucc i + (its.size : Int)).toNat = xs.length - (i + 1) := by rw [Int.negSucc_eq]; omega
    rw [this]; simpa using hv
theorem ixDictS {b c : V} {ks vs : List V} {ws : List Value} {l : Addr} {y : Value} {f : Str → Option Value} {Q : Value → Shared → Prop} (hm : s.heap.MapOf (strKind W.prog W.w) l f) (hw : RVs W B vs ws) (hf : ∀ k, f k = lkW ks ws (.str k))
    (hy : RV W B b y) (h : getIx (.dict true ks vs) b = some c) (k : ∀ v t, RV W B c v → Q v { s with toks := t }) : ItemAt s (model W.prog W.w) A' E (.ref l) y Q := by
  obtain ⟨i, rfl, h1⟩ := onS_inv h
  obtain ⟨_, rfl⟩ := hy.str_inv
  obtain ⟨v, hv, hr⟩ := hw.lk h1
  exact ⟨"dict", _, hm.typeIs, slot_dict_getitem.lookup, wpAny_getItem_of (knd := strKind W.prog W.w) (strKind_is _ _ _ _) hm ((hf _).trans hv) (k v _ hr)⟩
theorem ixStr {z : Str} {b c : V} {x y : Value} {Q : Value → Shared → Prop} (X : Sta W B₀ B ρ env cx σ s) (ha : RV W B (.str z) x) (hy : RV W B b y) (h : getIx (.str z) b = some c)
    (k : Kont W B₀ env cx B ρ σ s c Q) : ItemAt s (model W.prog W.w) A' E x y Q := by
  obtain ⟨_, rfl, h1⟩ := onI_inv h
  obtain ⟨i, rfl, h2⟩ := natOf_inv h1
  obtain ⟨hz, h3⟩ := condn h2
  obtain ⟨cp, e, rfl⟩ := omap h3
  obtain ⟨_, rfl⟩ := ha.str_inv
  obtain ⟨_, rfl⟩ := hy.int_inv
  have hl := Nat.le_of_ble_eq_true hz
  refine ⟨"str", _, typeIs_str s _ _, PySem.F.slot_str_getitem.lookup, PySem.P.getItem_str (c := cp) ?_ ?_ (k.toks X _ .str)⟩
  · have h1 : ¬ (Int.ofNat i < -(2 ^ 63 : Int)) := by show ¬ ((i : Int) < _); omega
    have h2 : ¬ (Int.ofNat i ≥ (2 ^ 63 : Int)) := by show ¬ ((i : Int) ≥ _); omega
    rw [decide_eq_false h1, decide_eq_false h2]; rfl
  · have hlt : i < z.length := (Array.getElem?_eq_some_iff.mp e).1
    have : seqIndex? (Int.ofNat i) z.length = some i := by
      unfold seqIndex?
      have h1 : ¬ (Int.ofNat i < 0) := by show ¬ ((i : Int) < 0); omega
      simp only [h1, if_false]
      have h2 : (decide (0 ≤ Int.ofNat i) && decide (Int.ofNat i < (z.length : Int))) = true := by
        rw [Bool.and_eq_true_iff]
        exact ⟨decide_eq_true (Int.natCast_nonneg i), decide_eq_true (by show (i : Int) < _; omega)⟩
      first | rw [if_pos h2]; rfl | (rw [if_pos (by simpa using h2)]; rfl)
    rw [this]; exact e
theorem getIx_sound (X : Sta W B₀ B ρ env cx σ s) {a b c : V} {x y : Value} {Q : Value → Shared → Prop} (ha : RV W B a x) (hy : RV W B b y) (h : getIx a b = some c)
    (k : Kont W B₀ env cx B ρ σ s c Q) : ItemAt s (model W.prog W.w) A' E x y Q := by
  rcases a with ⟨⟩
  case list xs =>
    obtain ⟨l, its, rfl, hl, hi, _⟩ := ha.isList
    exact ixList (X.list hl) hi hy h fun v hr => k.here X hr
  case str z => exact ixStr X ha hy h k
  case dict st ks vs =>
    cases st with
    | false =>
      obtain ⟨i, rfl, h1⟩ := onI_inv h
      obtain ⟨_, rfl⟩ := hy.int_inv
      obtain ⟨ad, f, ws, rfl, m1, m2, m3, m4⟩ := ha.dictI_inv
      obtain ⟨v, hv, hr⟩ := m3.lk h1
      have M := Heap.MapOf.sub m1 X.stays
      exact ⟨"dict", _, M.typeIs, slot_dict_getitem.lookup, wpAny_getItem_of (knd := intKind W.prog W.w) (intKind_is _ _ _ _) M ((m4 _).trans hv) (k.toks X _ hr)⟩
    | true =>
      obtain ⟨ad, f, ws, rfl, m1, m2, m3, m4⟩ := ha.dictS_inv
      exact ixDictS (Heap.MapOf.sub m1 X.stays) m3 m4 hy h fun v t r => k.toks X t r
  all_goals exact nos h
end
end

section
open PySem PySem.Calls PyProof.Rows PySem.W
set_option backward.match.sparseCases false
set_option maxRecDepth 100000
set_option linter.unusedVariables false
inductive RAs (W : Wd) (B : Heap) (ρ : List Addr) : List A → List Value → Prop
  | nil : RAs W B ρ [] []
  | cons {a x as xs} : RA W B ρ a x → RAs W B ρ as xs → RAs W B ρ (a :: as) (x :: xs)
theorem RAs.nil_inv {W : Wd} {B : Heap} {ρ : List Addr} {xs : List Value} (h : RAs W B ρ [] xs) : xs = [] := by cases h; rfl
theorem RAs.cons_inv {W : Wd} {B : Heap} {ρ : List Addr} {a : A} {as : List A} {xs : List Value} (h : RAs W B ρ (a :: as) xs) : ∃ x ys, xs = x :: ys ∧ RA W B ρ a x ∧ RAs W B ρ as ys := by cases h; exact ⟨_, _, rfl, ‹_›, ‹_›⟩
theorem RAs.mono {W : Wd} {B B' : Heap} {ρ ρ' : List Addr} (s : Sub B B') (r : ∃ t, ρ' = ρ ++ t) {as xs} (h : RAs W B ρ as xs) : RAs W B' ρ' as xs := by
  induction h with
  | nil => exact .nil
  | cons h _ ih => exact .cons (h.mono s r) ih
theorem RAs.length {W : Wd} {B : Heap} {ρ : List Addr} {as xs} (h : RAs W B ρ as xs) : as.length = xs.length := by
  induction h with
  | nil => rfl
  | cons _ _ ih => exact congrArg (· + 1) ih
theorem RAs.vals {W : Wd} {B : Heap} {ρ : List Addr} {as xs} (h : RAs W B ρ as xs) {vs} (e : valsOf as = some vs) : RVs W B vs xs := by
  induction as generalizing xs vs with
  | nil => rw [h.nil_inv, ← Option.some.inj e]; exact .nil
  | cons a as ih =>
    obtain ⟨x, ys, rfl, h1, h2⟩ := h.cons_inv
    rcases a with v | i
    · obtain ⟨ws, q, rfl⟩ := omap e
      exact .cons h1.val_inv (ih h2 q)
    · exact nos e
noncomputable def RF (W : Wd) (B : Heap) : Fl → Flow → Prop
  | .nxt, .next => True
  | .brk, .brk => True
  | .cnt, .cont => True
  | .ret v, .ret x => RV W B v x
  | _, _ => False
theorem rf_inv {W : Wd} {B : Heap} {f : Fl} {fl : Flow} (h : RF W B f fl) : (f = .nxt ∧ fl = .next) ∨ (f = .brk ∧ fl = .brk) ∨ (f = .cnt ∧ fl = .cont) ∨ ∃ v x, f = .ret v ∧ fl = .ret x ∧ RV W B v x := by
  rcases f with ⟨⟩ <;> rcases fl with ⟨⟩ <;> first | exact h.elim | exact .inl ⟨rfl, rfl⟩ | exact .inr (.inl ⟨rfl, rfl⟩) | exact .inr (.inr (.inl ⟨rfl, rfl⟩)) | exact .inr (.inr (.inr ⟨_, _, rfl, rfl, h⟩))
structure CSta (W : Wd) (B₀ B : Heap) (ρ : List Addr) (mem : List (Option M)) (s : Shared) : Prop where
  stays : Sub B s.heap
  base : Sub B₀ B
  len : mem.length = ρ.length
  nodup : ρ.Nodup
  lt : ∀ a ∈ ρ, a < s.heap.objs.size
  mem : ∀ (i : Nat) (m : M), mem[i]? = some (some m) → Held W B ρ s.heap i m
  stk : StkOk W.fs B ρ s.heap
theorem Sta.c {W B₀ B ρ env cx σ s} (X : Sta W B₀ B ρ env cx σ s) : CSta W B₀ B ρ σ.mem s := ⟨X.stays, X.base, X.len, X.nodup, X.lt, X.mem, X.stk⟩
inductive ExcN (h : Heap) (e : Addr) : Prop
  | mk (oe : Obj) (vs : Array Value) (h1 : h.get? e = some oe) (h2 : oe.cls = .type "StopIteration") (h3 : oe.data = .fields vs) (h4 : vs[1]? = some .none)
inductive ExcT (h : Heap) (e T : Addr) : Prop
  | mk (oe : Obj) (vs : Array Value) (oT : Obj) (ts : Array Value) (h1 : h.get? e = some oe) (h2 : oe.cls = .type "StopIteration") (h3 : oe.data = .fields vs) (h4 : vs[1]? = some (.ref T)) (h5 : T ≠ e) (h6 : h.get? T = some oT)
    (h7 : oT.cls ≠ .type "frame") (h8 : oT.data = .fields ts) (h9 : 3 < ts.size)
noncomputable def ExcAt (h : Heap) (e : Addr) : Option Addr → Prop
  | none => ExcN h e
  | some T => ExcT h e T
noncomputable def Top (W : Wd) (env : Env) : Prop := env.frame = some env.locals ∧ ∃ outer, W.fs = env :: outer
noncomputable def Own (e : Addr) (t : Option Addr) (B' : Heap) (ρ' : List Addr) (s s' : Shared) : Prop := ∀ b, (b = e ∨ t = some b) → B'.get? b = none ∧ b ∉ ρ' ∧ s.heap.objs.size ≤ b ∧ b < s'.heap.objs.size
theorem Own.ext {e : Addr} {t : Option Addr} {B' : Heap} {ρ' : List Addr} {s s₁ s' : Shared} (o : Own e t B' ρ' s₁ s') (h : s.heap.objs.size ≤ s₁.heap.objs.size) : Own e t B' ρ' s s' := fun b hb => by
  obtain ⟨h1, h2, h3, h4⟩ := o b hb; exact ⟨h1, h2, Nat.le_trans h h3, h4⟩
theorem Own.size {e : Addr} {t : Option Addr} {B' : Heap} {ρ' : List Addr} {s s₁ s' : Shared} (o : Own e t B' ρ' s s₁) (h : s₁.heap.objs.size ≤ s'.heap.objs.size) : Own e t B' ρ' s s' := fun b hb => by
  obtain ⟨h1, h2, h3, h4⟩ := o b hb; exact ⟨h1, h2, h3, Nat.lt_of_lt_of_le h4 h⟩
inductive Exc (W : Wd) (B₀ : Heap) (env : Env) (cx : Cx) (B : Heap) (ρ : List Addr) (s : Shared) (σ' : S) (x : Value) (s' : Shared) : Prop
  | mk (B' : Heap) (ρ' : List Addr) (e : Addr) (t : Option Addr) (h1 : x = .ref e) (h2 : Ext env.locals B ρ s B' ρ' s') (h3 : Sta W B₀ B' ρ' env cx σ' s') (h4 : ExcAt s'.heap e t) (h5 : Own e t B' ρ' s s')
inductive CallR (W : Wd) (B₀ B : Heap) (ρ : List Addr) (s : Shared) (v : V) (mem : List (Option M)) (r : Result) (s' : Shared) : Prop
  | mk (x : Value) (B' : Heap) (h1 : r = .ok (.ret x)) (h2 : Ext s.heap.objs.size B ρ s B' ρ s') (h3 : CSta W B₀ B' ρ mem s') (h4 : RV W B' v x)
inductive CallX (W : Wd) (B₀ B : Heap) (ρ : List Addr) (s : Shared) (mem : List (Option M)) (r : Result) (s' : Shared) : Prop
  | mk (e : Addr) (t : Option Addr) (B' : Heap) (h1 : r = .error (.ref e)) (h2 : Ext s.heap.objs.size B ρ s B' ρ s') (h3 : CSta W B₀ B' ρ mem s') (h4 : ExcAt s'.heap e t) (h5 : Own e t B' ρ s s')
structure IhOk (W : Wd) (g : Gl) (B₀ : Heap) (ih : Ih) (n : Nat) : Prop where
  ex : ∀ cx σ e a σ', ih.ex cx σ e = .ok a σ' → ∀ A env B ρ s, Room W A n → Sta W B₀ B ρ env cx σ s →
    wpAny (model W.prog W.w) A (eval e env) (Good W B₀ env cx B ρ s σ' fun B' ρ' x => RA W B' ρ' a x) No s
  tr : ∀ cx σ e b σ', ih.tr cx σ e = .ok b σ' → ∀ A env B ρ s, Room W A n → Sta W B₀ B ρ env cx σ s →
    wpAny (model W.prog W.w) A (isTrue e env (eval e env)) (Good W B₀ env cx B ρ s σ' fun _ _ x => x = b) No s
  sts : ∀ cx σ ss f σ', ih.sts cx σ ss = .ok f σ' → ∀ A env B ρ s, Room W A n → Top W env → Sta W B₀ B ρ env cx σ s →
    wpAny (model W.prog W.w) A (execs ss env) (Good W B₀ env cx B ρ s σ' fun B' _ x => RF W B' f x) No s
  call : ∀ mem nm as v σ', ih.call mem nm as = .ok v σ' → ∀ A B ρ s xs, Room W A n → CSta W B₀ B ρ mem s → RAs W B ρ as xs → ∀ a, W.FA nm = some a →
    codeAny (model W.prog W.w) A (.call (.ref a) ⟨xs, []⟩) (CallR W B₀ B ρ s v σ'.mem) s
  exX : ∀ cx σ e σ', ih.ex cx σ e = .exc σ' → ∀ A env B ρ s, Room W A n → Top W env → Sta W B₀ B ρ env cx σ s →
    wpAny (model W.prog W.w) A (eval e env) (fun _ _ => False) (Exc W B₀ env cx B ρ s σ') s
  stsX : ∀ cx σ ss σ', ih.sts cx σ ss = .exc σ' → ∀ A env B ρ s, Room W A n → Top W env → Sta W B₀ B ρ env cx σ s →
    wpAny (model W.prog W.w) A (execs ss env) (fun _ _ => False) (Exc W B₀ env cx B ρ s σ') s
  callX : ∀ mem nm as σ', ih.call mem nm as = .exc σ' → ∀ A B ρ s xs, Room W A n → CSta W B₀ B ρ mem s → RAs W B ρ as xs → ∀ a, W.FA nm = some a →
    codeAny (model W.prog W.w) A (.call (.ref a) ⟨xs, []⟩) (CallX W B₀ B ρ s σ'.mem) s
section
variable {W : Wd} {g : Gl} {B₀ B : Heap} {ρ : List Addr} {env : Env} {cx : Cx} {σ σ' : S} {s : Shared} {A' : Around} {n : Nat} {ih : Ih}
theorem good_step {α β : Type} {t : Sem α} {R : Heap → List Addr → α → Prop} {Q : α → Shared → Prop} {M' : Model} {E : Value → Shared → Prop} (h : wpAny M' A' t (Good W B₀ env cx B ρ s σ' R) No s)
    (k : ∀ B₁ ρ₁ s₁ x, Ext env.locals B ρ s B₁ ρ₁ s₁ → Sta W B₀ B₁ ρ₁ env cx σ' s₁ → R B₁ ρ₁ x → Q x s₁) : wpAny M' A' t Q E s :=
  wpAny_mono h (fun x s₁ h => by obtain ⟨B₁, ρ₁, e, st, r⟩ := h; exact k B₁ ρ₁ s₁ x e st r) fun _ _ f => f.elim
inductive Bd {α β : Type} (o : Out α) (f : α → S → Out β) (b : β) (σ' : S) : Prop
  | mk (a : α) (σ₁ : S) (h1 : o = .ok a σ₁) (h2 : f a σ₁ = .ok b σ')
inductive BdV {β : Type} (o : Out A) (f : V → S → Out β) (b : β) (σ' : S) : Prop
  | mk (a : V) (σ₁ : S) (h1 : o = .ok (.val a) σ₁) (h2 : f a σ₁ = .ok b σ')
inductive BdX {α β : Type} (o : Out α) (f : α → S → Out β) (σ' : S) : Prop
  | here (h : o = .exc σ')
  | mk (a : α) (σ₁ : S) (h1 : o = .ok a σ₁) (h2 : f a σ₁ = .exc σ')
inductive BdVX {β : Type} (o : Out A) (f : V → S → Out β) (σ' : S) : Prop
  | here (h : o = .exc σ')
  | mk (a : V) (σ₁ : S) (h1 : o = .ok (.val a) σ₁) (h2 : f a σ₁ = .exc σ')
theorem Out.bind_ok {α β : Type} {o : Out α} {f : α → S → Out β} {b : β} {σ' : S} (h : o.bind f = .ok b σ') : Bd o f b σ' := by
  rcases o with ⟨a, σ₁⟩ | _ | _
  · exact ⟨a, σ₁, rfl, h⟩
  · exact exc_ok h
  · exact bad_ok h
theorem Out.bindV_ok {β : Type} {o : Out A} {f : V → S → Out β} {b : β} {σ' : S} (h : o.bindV f = .ok b σ') : BdV o f b σ' := by
  rcases o with ⟨⟨v⟩ | i, σ₁⟩ | _ | _
  · exact ⟨v, σ₁, rfl, h⟩
  · exact bad_ok h
  · exact exc_ok h
  · exact bad_ok h
theorem noX_ok {α : Type} {o : Out α} {a : α} {σ' : S} (h : noX o = .ok a σ') : o = .ok a σ' := by
  rcases o with ⟨a, σ₁⟩ | _ | _
  · exact h
  · exact bad_ok h
  · exact bad_ok h
theorem noX_exc {α : Type} {o : Out α} {σ' : S} {P : Prop} (h : noX o = .exc σ') : P := by
  rcases o with ⟨a, σ₁⟩ | _ | _
  · exact ok_exc h
  · exact bad_exc h
  · exact bad_exc h
theorem Out.bind_exc {α β : Type} {o : Out α} {f : α → S → Out β} {σ' : S} (h : o.bind f = .exc σ') : BdX o f σ' := by
  rcases o with ⟨a, σ₁⟩ | _ | _
  · exact .mk a σ₁ rfl h
  · exact .here (exc_inj h ▸ rfl)
  · exact bad_exc h
theorem Out.bindV_exc {β : Type} {o : Out A} {f : V → S → Out β} {σ' : S} (h : o.bindV f = .exc σ') : BdVX o f σ' := by
  rcases o with ⟨⟨v⟩ | i, σ₁⟩ | _ | _
  · exact .mk v σ₁ rfl h
  · exact bad_exc h
  · exact .here (exc_inj h ▸ rfl)
  · exact bad_exc h
theorem Out.of_exc {α : Type} {o : Option α} {σ σ' : S} {P : Prop} (h : Out.of o σ = .exc σ') : P := by
  rcases o with _ | _
  · exact bad_exc h
  · exact ok_exc h
theorem Out.of_ok {α : Type} {o : Option α} {σ σ' : S} {a : α} (h : Out.of o σ = .ok a σ') : o = some a ∧ σ' = σ := by
  rcases o with _ | b
  · exact bad_ok h
  · obtain ⟨h1, h2⟩ := ok_inj h
    exact ⟨congrArg some h1, h2.symm⟩
theorem ofVal_ok {o : Option V} {σ σ' : S} {a : A} (h : Out.of (o.map A.val) σ = .ok a σ') : ∃ v, o = some v ∧ a = .val v ∧ σ' = σ := by
  obtain ⟨h1, h2⟩ := Out.of_ok h
  obtain ⟨v, h3, h4⟩ := omap h1
  exact ⟨v, h3, h4.symm, h2⟩
theorem exV (H : IhOk W g B₀ ih n) {e : Expr} {v : V} (h : ih.ex cx σ e = .ok (.val v) σ') (hA : Room W A' n) (X : Sta W B₀ B ρ env cx σ s) {Q : Value → Shared → Prop} {E : Value → Shared → Prop}
    (k : ∀ B₁ ρ₁ s₁ x, Ext env.locals B ρ s B₁ ρ₁ s₁ → Sta W B₀ B₁ ρ₁ env cx σ' s₁ → RV W B₁ v x → Q x s₁) : wpAny (model W.prog W.w) A' (eval e env) Q E s :=
  good_step (β := Value) (H.ex _ _ _ _ _ h _ _ _ _ _ hA X) fun B₁ ρ₁ s₁ x e st r => by
    exact k _ _ _ _ e st r.val_inv
theorem starEach_cons {e : Expr} (h : starred e = false) (r : List Expr) (env : Env) : starEach (e :: r) env = (false, eval e env) :: starEach r env := by
  cases e <;> first | rfl | exact tt_ff h
theorem exs_nil {as : List A} (h : exs ih cx σ [] = .ok as σ') : as = [] ∧ σ' = σ := by
  obtain ⟨h1, h2⟩ := ok_inj h; exact ⟨h1.symm, h2.symm⟩
inductive ExsR (ih : Ih) (cx : Cx) (σ : S) (e : Expr) (r : List Expr) (as : List A) (σ' : S) : Prop
  | mk (a : A) (σ₁ : S) (as' : List A) (hs : starred e = false) (h1 : ih.ex cx σ e = .ok a σ₁) (h2 : exs ih cx σ₁ r = .ok as' σ') (h3 : as = a :: as')
theorem exs_cons {e : Expr} {r : List Expr} {as : List A} (h : exs ih cx σ (e :: r) = .ok as σ') : ExsR ih cx σ e r as σ' := by
  rw [exs] at h
  obtain ⟨hs, h⟩ := cond_bt h
  obtain ⟨a, σ₁, h1, h2⟩ := Out.bind_ok h
  obtain ⟨as', σ₂, h3, h4⟩ := Out.bind_ok h2
  obtain ⟨h5, rfl⟩ := ok_inj h4
  exact ⟨a, σ₁, as', hs, h1, h3, h5.symm⟩
theorem exs_sound (H : IhOk W g B₀ ih n) (hA : Room W A' n) (pos : Pos) {es : List Expr} {as : List A} {σ B ρ s} (h : exs ih cx σ es = .ok as σ') (X : Sta W B₀ B ρ env cx σ s) :
    wpAny (model W.prog W.w) A' (spliced (backTo pos (starEach es env))) (Good W B₀ env cx B ρ s σ' fun B' ρ' xs => RAs W B' ρ' as xs) No s := by
  induction es generalizing as σ B ρ s with
  | nil =>
    obtain ⟨rfl, rfl⟩ := exs_nil h
    exact spliced_nil ⟨B, ρ, Ext.refl .., X, .nil⟩
  | cons e r ih' =>
    obtain ⟨a, σ₁, as', hs, h1, h3, rfl⟩ := exs_cons h
    rw [starEach_cons hs]
    refine spliced_cons (good_step (β := Value) (H.ex _ _ _ _ _ h1 _ _ _ _ _ hA X) fun B₁ ρ₁ s₁ x e1 st1 r1 => ?_)
    exact good_step (β := Value) (ih' h3 st1) fun B₂ ρ₂ s₂ xs e2 st2 r2 => ⟨B₂, ρ₂, e1.trans e2, st2, .cons (r1.mono e2.sub e2.pre) r2⟩
theorem exVs_sound (H : IhOk W g B₀ ih n) (hA : Room W A' n) (pos : Pos) {es : List Expr} {vs : List V} (h : exVs ih cx σ es = .ok vs σ') (X : Sta W B₀ B ρ env cx σ s) :
    wpAny (model W.prog W.w) A' (spliced (backTo pos (starEach es env))) (Good W B₀ env cx B ρ s σ' fun B' ρ' xs => RVs W B' vs xs) No s := by
  unfold exVs at h
  obtain ⟨as, σ₁, h1, h2⟩ := Out.bind_ok h
  obtain ⟨h3, rfl⟩ := Out.of_ok h2
  refine good_step (β := Value) (exs_sound H hA pos h1 X) fun B₁ ρ₁ s₁ xs e1 st1 r1 => ⟨B₁, ρ₁, e1, st1, r1.vals h3⟩
theorem backTo_plain (pos : Pos) : ∀ {es : List Expr} {env : Env} {as : List A} {σ σ₀ : S}, exs ih cx σ es = .ok as σ₀ → (backTo pos (starEach es env)).any (·.1) = false
  | [], _, _, _, _, _ => rfl
  | e :: r, env, as, σ, σ₀, h => by
    obtain ⟨a, σ₁, as', hs, h1, h3, _⟩ := exs_cons h
    rw [starEach_cons hs]
    exact backTo_plain pos h3
theorem callW (H : IhOk W g B₀ ih n) (hA : Room W A' n) {pos : Pos} {f : Value} {first : List Value} {es : List Expr} {as : List A} (h : exs ih cx σ es = .ok as σ') (X : Sta W B₀ B ρ env cx σ s)
    (hf : ∀ (P : Heap) , Sub s.heap P ∨ Sub B P → ∃ k, (k = Keeper.frame ∨ k = Keeper.machine ∨ k = Keeper.boundFrame) ∧ Looks (model W.prog W.w) P (keeperOf f) k) {Q : Value → Shared → Prop} {E : Value → Shared → Prop}
    (k : ∀ B₁ ρ₁ s₁ xs, Ext env.locals B ρ s B₁ ρ₁ s₁ → Sta W B₀ B₁ ρ₁ env cx σ' s₁ → RAs W B₁ ρ₁ as xs → wpAny (model W.prog W.w) A' (call f (first ++ xs) []) Q E s₁) :
    wpAny (model W.prog W.w) A' (callWith pos f first (backTo pos (starEach es env)) []) Q E s := by
  have hp := backTo_plain (env := env) pos h
  refine callWith_of (P := fun h' => Sub B h') (by rw [hp]; rfl) (fun h' hB => hf h' (.inr hB)) ?_
  have fin : wpAny (model W.prog W.w) A' (spliced (backTo pos (starEach es env))) (fun xs s₁ => Sub B s₁.heap ∧ wpAny (model W.prog W.w) A' (call f (first ++ xs) []) Q E s₁) E s :=
    good_step (β := Value) (exs_sound H hA pos h X) fun B₁ ρ₁ s₁ xs e1 st1 r1 => ⟨e1.sub.trans st1.stays, k _ _ _ _ e1 st1 r1⟩
  cases es with
  | nil =>
    refine evalArgs_nil3 ?_
    obtain ⟨rfl, rfl⟩ := exs_nil h
    exact ⟨X.stays, k B ρ s [] (Ext.refl ..) X .nil⟩
  | cons e r =>
    have hs : starred e = false := by obtain ⟨_, _, _, hs, _⟩ := exs_cons h; exact hs
    rw [starEach_cons hs] at fin ⊢
    exact evalArgs_plain (wpAny_mono fin (fun xs s₁ h₁ => h₁) fun _ _ e => e)
end
end

section
open PySem PySem.Calls PyProof.Rows PySem.W
set_option backward.match.sparseCases false
set_option maxRecDepth 100000
set_option linter.unusedVariables false
section
variable {W : Wd} {g : Gl} {B₀ B : Heap} {ρ : List Addr} {env : Env} {cx : Cx} {σ σ' : S} {s : Shared} {A' : Around} {n : Nat} {ih : Ih}
inductive PlR (g : Gl) (cx : Cx) (σ : S) (e : Expr) (x : Str) (i : Nat) (m : M) : Prop
  | mk (p : Pos) (h1 : e = .Name x p) (h2 : readRaw g cx σ x = some (.plc i)) (h3 : σ.mem[i]? = some (some m))
theorem pl_r {e : Expr} {q : Str × Nat × M} (h : placeOf g cx σ e = some q) : PlR g cx σ e q.1 q.2.1 q.2.2 := by
  obtain ⟨x, h1, h⟩ := obind h
  obtain ⟨i, h2, h⟩ := obind h
  obtain ⟨m, h3, rfl⟩ := omap h
  obtain ⟨a, h4, h5⟩ := obind h2
  obtain ⟨p, h1⟩ := nameE_inv h1
  exact ⟨p, h1, plcOf_inv h5 ▸ h4, at_some h3⟩
theorem ls_r {e : Expr} {q : Nat × List V} (h : lstAt g cx σ e = some q) : ∃ x, placeOf g cx σ e = some (x, q.1, .lst q.2) := by
  obtain ⟨p, h1, h⟩ := obind h
  obtain ⟨xs, h2, rfl⟩ := omap h
  have := lstOf_inv h2
  exact ⟨p.1, h1.trans (congrArg some (show p = (p.1, p.2.1, M.lst xs) from this ▸ rfl))⟩
theorem place_load (hb : BaseOk W g B₀) (X : Sta W B₀ B ρ env cx σ s) {e : Expr} {q : Str × Nat × M} (h : placeOf g cx σ e = some q) {M' : Model} {E : Value → Shared → Prop} {Q : Value → Shared → Prop}
    (k : ∀ a, ρ[q.2.1]? = some a → B.get? a = none → RM W B ρ s.heap a q.2.2 → σ.mem[q.2.1]? = some (some q.2.2) → Q (.ref a) s) : wpAny M' A' (eval e env) Q E s := by
  obtain ⟨p, rfl, hr, hm⟩ := pl_r h
  refine raw_load hb X hr fun v hv _ _ => ?_
  obtain ⟨a, rfl, hi⟩ := hv.plc_inv
  obtain ⟨b, h1, h2, h3⟩ := X.mem _ _ hm
  obtain rfl := Option.some.inj (hi.symm.trans h1)
  exact k _ h1 h2 h3 hm
inductive Part : Value → Option Int → Prop
  | none : Part .none none
  | int {i t} : Part (.int i t) (some i)
theorem Part.is {x p} (h : Part x p) : IsPart x p := by rcases h with _ | _; exact .none; exact .int _ _
theorem Part.tok {x p} (h : Part x p) : ∃ q : Option (Int × Tok), x = partValue q ∧ q.map (·.1) = p := by
  rcases h with _ | ⟨⟩
  · exact ⟨Option.none, rfl, rfl⟩
  · rename_i i t; exact ⟨some (i, t), rfl, rfl⟩
theorem part_sound (H : IhOk W g B₀ ih n) (hA : Room W A' n) (X : Sta W B₀ B ρ env cx σ s) {e : Option Expr} {p : Option Int} (h : exPart ih cx σ e = .ok p σ') {E : Value → Shared → Prop} {Q : Value → Shared → Prop}
    (k : ∀ B₁ ρ₁ s₁ x, Ext env.locals B ρ s B₁ ρ₁ s₁ → Sta W B₀ B₁ ρ₁ env cx σ' s₁ → Part x p → Q x s₁) : wpAny (model W.prog W.w) A' (evalPart e env) Q E s := by
  rcases e with _ | e
  · obtain ⟨rfl, rfl⟩ := ok_inj h
    exact wpAny_evalPart_none (k _ _ _ _ (Ext.refl ..) X .none)
  · obtain ⟨v, σ₁, h1, h2⟩ := Out.bindV_ok h
    obtain ⟨h3, rfl⟩ := Out.of_ok h2
    refine wpAny_evalPart_some (exV H h1 hA X fun B₁ ρ₁ s₁ x e1 st1 r1 => k _ _ _ _ e1 st1 ?_)
    rcases v with ⟨⟩ <;> first | exact nos h3 | skip
    · obtain rfl := Option.some.inj h3
      rw [r1.none_inv]; exact .none
    · obtain rfl := Option.some.inj h3
      obtain ⟨_, rfl⟩ := r1.int_inv
      exact .int
theorem slice_reads {P : Value → Shared → Prop} {slice : Expr} {ov sv : Value} {lo hi st : Option Expr} {p : Pos} (hs : slice = .Slice lo hi st p) :
    ∃ ops, subscripted slice false ov sv = operate ops (getItem ov sv) := by
  subst hs
  cases st with
  | none => exact ⟨_, rfl⟩
  | some e => exact ⟨_, rfl⟩
theorem step_indices_le (l u : Option Int) (k : Int) (hk : k ≠ 0) (n : Nat) : (Builtin.Str.strSliceIndices l u k n).length ≤ n + 1 :=
  Nat.le_trans (PySem.sliceIndicesBy_le l u k hk n) (Nat.le_succ n)
inductive SlcR (l h : Option Int) : V → Option Int → V → Prop
  | lst (xs : List V) (s : Option Int) (h1 : xs.length ≤ 1100000) (h2 : s ≠ some 0) : SlcR l h (.list xs) s (.list (pickL xs l h s))
  | str (x : Str) (h1 : x.length ≤ 1100000) : SlcR l h (.str x) none (.str (Txt.slice x l h))
  | rev (x : Str) (h1 : x.length ≤ 1100000) : SlcR l h (.str x) (some (-1)) (.str ⟨((Builtin.Str.strSliceIndices l h (-1) x.length).filterMap (x.cps[·]?)).toArray⟩)
theorem slc_r {ov : V} {l h s : Option Int} {c : V} (e : sliceOf ov l h s = some c) : SlcR l h ov s c := by
  rcases onBISL_inv e with ⟨_, _, e⟩ | ⟨_, _, e⟩ | ⟨x, rfl, e1⟩ | ⟨xs, rfl, e1⟩
  · exact nos e
  · exact nos e
  · rcases s with _ | k
    · obtain ⟨hz, rfl⟩ := conds e1
      exact .str x (Nat.le_of_ble_eq_true hz)
    · obtain ⟨hz, rfl⟩ := conds e1
      have hz := Bool.and_eq_true_iff.mp hz
      obtain rfl := of_decide_eq_true hz.2
      exact .rev x (Nat.le_of_ble_eq_true hz.1)
  · obtain ⟨hz, rfl⟩ := conds e1
    have hz := Bool.and_eq_true_iff.mp hz
    exact .lst xs s (Nat.le_of_ble_eq_true hz.1) (of_decide_eq_true hz.2)
theorem Made.mono {m : Made} {Q Q' : Value → Shared → Prop} {s₀ : Shared} (h : m.post Q s₀) (f : ∀ v s, Q v s → Q' v s) : m.post Q' s₀ := by
  induction m with
  | val v => exact f _ _ h
  | int v => exact f _ _ h
  | str v => exact ⟨h.1, f _ _ h.2⟩
  | float v => exact f _ _ h
  | bytes v => exact ⟨h.1, f _ _ h.2⟩
  | either a b ia ib => exact ⟨ia h.1, ib h.2⟩
noncomputable abbrev withS (s : Shared) (lv uv tv : Value) : Shared := { s with heap := s.heap.push { cls := .type "slice", data := .fields #[lv, uv, tv] } }
theorem slice_list {o : Expr} {sl : Expr} {xs : List V} {x lv uv tv : Value} {l u t : Option Int} {Q : Value → Shared → Prop} {ops : List Value} (X : Sta W B₀ B ρ env cx σ s) (r : RV W B (.list xs) x) (p2 : Part lv l) (p3 : Part uv u) (p4 : Part tv t)
    (hle : xs.length ≤ 1100000) (hne : t ≠ some 0) (hops : subscripted sl false x (.ref s.heap.objs.size) = operate ops (getItem x (.ref s.heap.objs.size))) (k : Kont W B₀ env cx B ρ σ s (.list (pickL xs l u t)) Q) :
    wpAny (model W.prog W.w) A' (subscriptTail o sl x (.ref s.heap.objs.size)) Q E (withS s lv uv tv) := by
  obtain ⟨ad, its, rfl, hl, hi', _⟩ := r.isList
  have hl4 := (X.list hl).push { cls := .type "slice", data := .fields #[lv, uv, tv] }
  refine tail_any (T := "list") hl4.typeIs slot_list_getitem.lookup (wpAny_getItem_list_slice hl4 (Heap.IsSliceOf.new _ _ _ _) p2.is p3.is p4.is hne ?_ (by
    have := hi'.length; simp at this; unfold sizeLine; omega)) hops
  have := k.push2 X (o₁ := { cls := .type "slice", data := .fields #[lv, uv, tv] }) (o := { cls := .type "list", data := .seq (slicePick its l u t) }) s.toks rfl fun B' sb hB => RV.newList hB ((hi'.mono sb).slice l u t)
  rw [show (s.heap.push { cls := .type "slice", data := .fields #[lv, uv, tv] }).objs.size = s.heap.objs.size + 1 by simp]
  exact this
theorem slice_str {o : Expr} {sl : Expr} {xs c : Str} {x lv uv : Value} {l u : Option Int} {q : Option (Int × Tok)} {Q : Value → Shared → Prop} {ops : List Value} (X : Sta W B₀ B ρ env cx σ s) (r : RV W B (.str xs) x) (p2 : Part lv l) (p3 : Part uv u)
    (h0 : ((q.map (·.1)).getD 1 == 0) = false) (hops : subscripted sl false x (.ref s.heap.objs.size) = operate ops (getItem x (.ref s.heap.objs.size)))
    (hm : ∀ t lq uq s', lq.map (·.1) = l → uq.map (·.1) = u → (sliceMade xs t lq uq q).post (fun v s'' => ∃ tt k, v = .str c tt ∧ s'' = { s' with toks := k }) s')
    (k : Kont W B₀ env cx B ρ σ s (.str c) Q) : wpAny (model W.prog W.w) A' (subscriptTail o sl x (.ref s.heap.objs.size)) Q E (withS s lv uv (partValue q)) := by
  obtain ⟨tk, rfl⟩ := r.str_inv
  obtain ⟨lq, rfl, hl⟩ := p2.tok
  obtain ⟨uq, rfl, hu⟩ := p3.tok
  refine tail_any (T := "str") (typeIs_str _ _ _) PySem.F.slot_str_getitem.lookup (wpAny_getItem_str_slice (l := lq) (u := uq) (st := q) ⟨_, Heap.get?_push_size _ rfl, rfl, rfl⟩ h0 ?_) hops
  refine Made.mono (hm tk lq uq _ hl hu) fun v s' h => ?_
  obtain ⟨tt, kk, rfl, rfl⟩ := h
  exact k B _ _ (Ext.grow (fun b o' e => Heap.get?_push_of_some _ e) (by simp)) (X.grow (fun b o' e => Heap.get?_push_of_some _ e) (by simp)) .str
theorem ix_place {y : Value} {j : Nat} {ad : Addr} {m : M} {v iv c : V} {B₁ : Heap} {ρ₁ : List Addr} {s₁ : Shared} {σ₁ : S} {Q : Value → Shared → Prop} (a1 : ρ[j]? = some ad) (e1 : Ext env.locals B ρ s B₁ ρ₁ s₁) (st1 : Sta W B₀ B₁ ρ₁ env cx σ₁ s₁)
    (hm : σ₁.mem[j]? = some (some m)) (hv : thaw m = some v) (r1 : RV W B₁ iv y) (h3 : getIx v iv = some c) (k : Kont W B₀ env cx B₁ ρ₁ σ₁ s₁ c Q) : ItemAt s₁ (model W.prog W.w) A' E (.ref ad) y Q := by
  obtain ⟨ad', b1, b2, b3⟩ := st1.mem j m hm
  obtain ⟨t, ht⟩ := e1.pre
  rw [ht, List.getElem?_append_left (List.getElem?_eq_some_iff.mp a1).1, a1] at b1
  obtain rfl := Option.some.inj b1
  rcases m with ⟨⟩
  case lst xs =>
    obtain rfl := Option.some.inj hv
    obtain ⟨its, hp', hx⟩ := b3
    exact ixList hp'.isList hx r1 h3 fun v r => k.here st1 r
  case dct ks vs =>
    obtain rfl := Option.some.inj hv
    obtain ⟨f, ws, nn, q1, q2, q3, q4, q5, q6, q7, q8⟩ := b3
    exact ixDictS q1 q5 q6 r1 h3 fun v t r => k.toks st1 t r
  all_goals exact nos hv
theorem exSub_elim {P : Expr → Prop} {σ : S} {o i : Expr} {r : Out A} (h : exSub g ih cx σ o i = r) (h1 : ∀ lo hi st p, exSub g ih cx σ o (.Slice lo hi st p) = r → P (.Slice lo hi st p))
    (h2 : ∀ i, isSlice i = false → exIx g ih cx σ o i = r → P i) : P i := by
  rcases i with ⟨⟩
  case Slice => exact h1 _ _ _ _ h
  all_goals exact h2 _ rfl h
theorem sub_sound (hb : BaseOk W g B₀) (H : IhOk W g B₀ ih n) (hA : Room W A' n) (X : Sta W B₀ B ρ env cx σ s) {o i : Expr} {pos : Pos} {a : A} (h : exSub g ih cx σ o i = .ok a σ') :
    wpAny (model W.prog W.w) A' (eval (.Subscript o i pos) env) (Good W B₀ env cx B ρ s σ' fun B' ρ' x => RA W B' ρ' a x) No s := by
  refine exSub_elim (P := fun i => wpAny (model W.prog W.w) A' (eval (.Subscript o i pos) env) (Good W B₀ env cx B ρ s σ' fun B' ρ' x => RA W B' ρ' a x) No s) h (fun lo hi st p h => ?_) (fun i hns h => ?_)
  all_goals refine Subscript_ ?_
  · obtain ⟨ov, σ₁, h1, h2⟩ := Out.bindV_ok (noX_ok h)
    obtain ⟨l, σ₂, h3, h4⟩ := Out.bind_ok h2
    obtain ⟨u, σ₃, h5, h6⟩ := Out.bind_ok h4
    obtain ⟨t, σ₄, h7, h8⟩ := Out.bind_ok h6
    obtain ⟨c, h9, rfl, rfl⟩ := ofVal_ok h8
    clear h h2 h4 h6 h8
    refine exV H h1 hA X fun B₁ ρ₁ s₁ x e1 st1 r1 => wpAny_Slice ?_
    refine part_sound H hA st1 h3 fun B₂ ρ₂ s₂ lv e2 st2 p2 => ?_
    refine part_sound H hA st2 h5 fun B₃ ρ₃ s₃ uv e3 st3 p3 => ?_
    refine part_sound H hA st3 h7 fun B₄ ρ₄ s₄ tv e4 st4 p4 => ?_
    have r4 := r1.mono (e2.sub.trans (e3.sub.trans e4.sub))
    obtain ⟨ops, hops⟩ := slice_reads (P := No) (ov := x) (sv := .ref s₄.heap.objs.size) (lo := lo) (hi := hi) (st := st) (p := p) rfl
    have kk : Kont W B₀ env cx B₄ ρ₄ σ' s₄ c (Good W B₀ env cx B ρ s σ' fun B' ρ' x => RA W B' ρ' (.val c) x) :=
      fun B' s' v e st r => ⟨B', ρ₄, (e1.trans (e2.trans (e3.trans e4))).trans e, st, .val r⟩
    clear e1 e2 e3 e4 st1 st2 st3 h1 h3 h5 h7 r1
    rcases slc_r h9 with ⟨xs, _, g1, g2⟩ | ⟨xs, g1⟩ | ⟨xs, g1⟩
    · exact slice_list st4 r4 p2 p3 p4 g1 g2 hops kk
    · rw [show tv = partValue none by obtain ⟨q, rfl, hq⟩ := p4.tok; rcases q with _ | q; rfl; exact son hq]
      refine slice_str st4 r4 p2 p3 rfl hops (fun t lq uq s' h3 h4 => ?_) kk
      unfold sliceMade slicePicked Txt.slice
      rw [h3, h4]
      simp only [Option.map_none, Option.getD_none]
      split
      · exact ⟨_, _, rfl, rfl⟩
      · refine ⟨Nat.le_trans (?_ : _ ≤ xs.length) (by unfold sizeLine; omega), _, _, rfl, rfl⟩
        show (List.filterMap _ _).toArray.size ≤ _
        rw [List.size_toArray]
        exact Nat.le_trans (List.length_filterMap_le ..) (sliceIndices_le _ _ _)
    · obtain ⟨tk, rfl⟩ : ∃ tk, tv = partValue (some (-1, tk)) := by
        obtain ⟨q, rfl, hq⟩ := p4.tok
        rcases q with _ | ⟨a, b⟩
        · exact nos hq
        · exact ⟨b, by rw [show a = -1 from Option.some.inj hq]⟩
      refine slice_str st4 r4 p2 p3 rfl hops (fun t lq uq s' h3 h4 => ?_) kk
      unfold sliceMade slicePicked
      rw [h3, h4]
      refine ⟨Nat.le_trans (?_ : _ ≤ xs.length + 1) (by unfold sizeLine; omega), _, _, rfl, rfl⟩
      show (List.filterMap _ _).toArray.size ≤ _
      rw [List.size_toArray]
      exact Nat.le_trans (List.length_filterMap_le ..) (step_indices_le _ _ _ (by show (-1 : Int) ≠ 0; decide) _)
  · have hops : ∀ ov iv, ∃ ops, subscripted i false ov iv = operate ops (getItem ov iv) := by
      intro ov iv
      rcases i with ⟨⟩ <;> first | exact ⟨_, rfl⟩ | exact tt_ff hns
    unfold exIx at h
    rcases hp : placeOf g cx σ o with _ | q <;> rw [hp] at h
    · obtain ⟨ov, σ₁, h1, h2⟩ := Out.bindV_ok h
      obtain ⟨iv, σ₂, h3, h4⟩ := Out.bindV_ok h2
      obtain ⟨c, h5, rfl, rfl⟩ := ofVal_ok h4
      clear h h2 h4
      refine exV H (noX_ok h1) hA X fun B₁ ρ₁ s₁ x e1 st1 r1 => ?_
      refine exV H h3 hA st1 fun B₂ ρ₂ s₂ y e2 st2 r2 => ?_
      obtain ⟨ops, ho⟩ := hops x y
      obtain ⟨T, id, t1, t2, t3⟩ := getIx_sound (Q := Good W B₀ env cx B ρ s σ' fun B' ρ' x => RA W B' ρ' (.val c) x) (E := No) (A' := A') st2 (r1.mono e2.sub) r2 h5 fun B' s' v e st r => ⟨B', ρ₂, (e1.trans e2).trans e, st, .val r⟩
      exact tail_any t1 t2 t3 ho
    · obtain ⟨iv, σ₁, h1, h2⟩ := Out.bindV_ok (noX_ok h)
      obtain ⟨v, h3, h4⟩ := optB_ok h2
      obtain ⟨c, h5, rfl, rfl⟩ := ofVal_ok h4
      obtain ⟨m, hm, hv⟩ := obind h3
      clear h h2 h3 h4
      refine place_load hb X hp fun ad a1 a2 a3 a4 => ?_
      refine exV H h1 hA X fun B₁ ρ₁ s₁ x e1 st1 r1 => ?_
      obtain ⟨ops, ho⟩ := hops (.ref ad) x
      obtain ⟨T, id, t1, t2, t3⟩ := ix_place (Q := Good W B₀ env cx B ρ s σ' fun B' ρ' x => RA W B' ρ' (.val c) x) (E := No) (A' := A') a1 e1 st1 (at_some hm) hv r1 h5 fun B' s' v e st r => ⟨B', ρ₁, e1.trans e, st, .val r⟩
      exact tail_any t1 t2 t3 ho
end
end

section
open PySem PySem.Calls PyProof.Rows PySem.W
set_option backward.match.sparseCases false
set_option maxRecDepth 100000
set_option linter.unusedVariables false
noncomputable def mtName : Mt → Str
  | .append => "append" | .extend => "extend" | .join => "join" | .split => "split" | .startswith => "startswith" | .endswith => "endswith"
  | .find => "find" | .rfind => "rfind" | .index => "index" | .count => "count" | .get => "get"
theorem mtS_eq (m : Mt) : mtS m = mtName m := by cases m <;> decide +kernel
theorem mt_step {x : Str} {m k : Mt} {o : Option Mt} (h : cond (nEq x (mtS k)) (some k) o = some m) : x = mtName m ∨ o = some m := by
  rcases q : nEq x (mtS k) with _ | _ <;> rw [q] at h
  · exact .inr h
  · exact .inl (Option.some.inj h ▸ (nEq_iff.mp q).trans (mtS_eq k))
theorem mtOf_name {x : Str} {m : Mt} (h : mtOf x = some m) : x = mtName m := by
  unfold mtOf at h
  iterate 11 (rcases mt_step h with q | h1; exact q; replace h := h1; clear h1)
  exact nos h
open PySem.Builtin PySem.Builtin.Str in
theorem gives_find4 (x y : Str) (i j : Int) (t u v v' : Tok) : Gives («str.find» ⟨[.str x t, .str y u, .int i v, .int j v'], []⟩) (.int (match occurrences x y (fromIndex x.length i) (min (fromIndex x.length j) x.length) 1 with | k :: _ => (k : Int) | [] => -1)) := by
  show Gives (match occurrences x y (fromIndex x.length i) (min (fromIndex x.length j) x.length) 1 with | k :: _ => retInt k | [] => (do rule "str.find.not-found"; retInt (-1))) _
  cases occurrences x y (fromIndex x.length i) (min (fromIndex x.length j) x.length) 1 with
  | nil => exact .rule (.of_eq rfl)
  | cons k _ => exact .of_eq rfl
section
variable {prog : Program} {w : World} {A : Around} {E : Value → Shared → Prop} {s : Shared}
theorem find4 {x y : Str} {i j : Int} {t u v v' : Tok} {Q : Value → Shared → Prop}
    (hq : Q (.int (match Builtin.Str.occurrences x y (fromIndex x.length i) (min (fromIndex x.length j) x.length) 1 with | k :: _ => (k : Int) | [] => -1) s.toks) { s with toks := s.toks + 1 }) :
    wpAny (model prog w) A (call (.builtin "str.find") [.str x t, .str y u, .int i v, .int j v']) Q E s :=
  call_gives PySem.F.slot_str_find (typeIs_str _ _ _) PySem.F.entry_str_find (PySem.F.args_str_find_4 _ _ _ _) (gives_find4 x y i j t u v v') hq
open PySem.Builtin PySem.Builtin.Str in
theorem split_base {x y : Str} {t u : Tok} {Q : Value → Shared → Prop} (hy : (y.length == 0) = false)
    (h : ∀ l k, l.map (·.1) = Txt.split x y → Q (.ref s.heap.objs.size) { s with heap := s.heap.push { cls := .type "list", data := .seq (strValues l).toArray }, toks := k })
    (hsz : x.length + 2 ≤ sizeLine) :
    wpAny (model prog w) A (call (.builtin "str.split") [.str x t, .str y u]) Q E s := by
  have hn : (partsBetween x (occurrences x y 0 x.length (x.length + 1)) y.length).length ≤ sizeLine := by
    have e1 := StrLaws.occ_length_le x y 0 x.length (x.length + 1)
    rw [length_partsBetween]; omega
  cases h1 : (decide (x.length < y.length) || decide (strKind x < strKind y))
  · cases hf : (occurrences x y 0 x.length (x.length + 1)).isEmpty
    · refine call_meets PySem.F.slot_str_split (typeIs_str _ _ _) PySem.F.entry_str_split (PySem.F.args_str_split_2 _ _) (meets_str_split_sep x y t u h1 hy hf (by omega) hn) ?_
      show wants Q E _ { s with toks := _, heap := s.heap.push { cls := .type "list", data := .seq (strsFrom s.toks (partsBetween x (occurrences x y 0 x.length (x.length + 1)) y.length)).toArray } }
      rw [strsFrom_eq]
      exact h (numbered s.toks _) _ ((numbered_texts _ _).trans ((if_neg (ne_true_of_eq_false h1)).trans (if_neg (ne_true_of_eq_false hf))).symm)
    · exact call_meets PySem.F.slot_str_split (typeIs_str _ _ _) PySem.F.entry_str_split (PySem.F.args_str_split_2 _ _) (meets_str_split_not_found x y t u h1 hy hf)
        (h [(x, t)] s.toks ((if_neg (ne_true_of_eq_false h1)).trans (if_pos hf)).symm)
  · exact call_meets PySem.F.slot_str_split (typeIs_str _ _ _) PySem.F.entry_str_split (PySem.F.args_str_split_2 _ _) (meets_str_split_cannot_occur x y t u h1)
      (h [(x, t)] s.toks (if_pos h1).symm)
theorem dict_get2 {knd : KeyKind prog w Int} {d : Addr} {f : Int → Option Value} {k : Int} {key dflt : Value} {Q : Value → Shared → Prop} (hd : (d == sysModules) = false) (hkey : knd.is k key = true) (hm : s.heap.MapOf knd d f)
    (hq : Q ((f k).getD dflt) { s with toks := s.toks + 1 }) : wpAny (model prog w) A (call (.builtin "dict.get") [.ref d, key, dflt]) Q E s :=
  wpAny_call (codeAny_call_builtin PySem.F.slot_dict_get.plain PySem.F.entry_dict_get (PySem.F.slot_dict_get.check _ _ _ _ _ _ _ _ hm.typeIs (PySem.F.args_dict_get_3 _ _ _) (meets_dict_get_default knd d hkey hd dflt A (wants Q E) s ⟨f, hm, hq⟩)))
end
theorem strs_values {ys : List Str} {l : List (Str × Tok)} (h : l.map (·.1) = ys) : StrsAre (strValues l) ys := by
  subst h
  induction l with
  | nil => exact .nil
  | cons p r ih => exact .cons _ _ ih
section
variable {W : Wd} {g : Gl} {B₀ B : Heap} {ρ : List Addr} {env : Env} {cx : Cx} {σ σ' : S} {s : Shared} {A' : Around} {n : Nat} {ih : Ih} {E : Value → Shared → Prop}
theorem canLay_ints : ∀ is : List Int, PyData.canLayAll0 (is.map PyData.int) = true
  | [] => by simp [PyData.canLayAll0]
  | i :: r => by simp [PyData.canLayAll0, PyData.canLay0, canLay_ints r]
theorem depth_ints : ∀ is : List Int, PyData.depthAll (is.map PyData.int) = 0
  | [] => by simp [PyData.depthAll]
  | i :: r => by simp [PyData.depthAll, PyData.depth, depth_ints r]
theorem weight_ints : ∀ is : List Int, is.all smallI = true → PyData.weightAll (is.map PyData.int) ≤ 64 * is.length
  | [], _ => by simp [PyData.weightAll]
  | i :: r, h => by
    simp only [List.all_cons, Bool.and_eq_true] at h
    have ih := weight_ints r h.2
    have h1 : i.natAbs ≤ 9223372036854775807 := Nat.le_of_ble_eq_true h.1
    have hw : PyData.weight (.int i) ≤ 63 := by
      simp only [PyData.weight]
      split
      · omega
      · rename_i hi
        have hne : i.natAbs ≠ 0 := by simpa using hi
        have : i.natAbs.log2 < 63 := (Nat.log2_lt hne).mpr (by omega)
        omega
    simp only [List.map_cons, PyData.weightAll, List.length_cons]
    omega
theorem layable_ints {is : List Int} (h1 : is.all smallI = true) (h2 : is.length ≤ 1000) : (PyData.list (is.map PyData.int)).layable0 = true := by
  have hw := weight_ints is h1
  simp only [PyData.layable0, PyData.canLay0, canLay_ints, PyData.depth, depth_ints, PyData.weight, Bool.true_and, Bool.and_eq_true, decide_eq_true_eq]
  refine ⟨by omega, ?_⟩
  have h3 : 64 * is.length ≤ 64000 := by omega
  have h4 : (64000 : Nat) ≤ 2 ^ 20 := by decide
  exact decide_eq_true (Nat.le_trans (Nat.le_trans hw h3) h4)
inductive MethR : Mt → V → List V → V → Prop
  | starts (s y : Str) : MethR .startswith (.str s) [.str y] (.bool (Txt.startswith s y))
  | ends (s y : Str) : MethR .endswith (.str s) [.str y] (.bool (Txt.endswith s y))
  | find (s y : Str) : MethR .find (.str s) [.str y] (.int (Txt.find s y))
  | rfind (s y : Str) : MethR .rfind (.str s) [.str y] (.int (Txt.rfind s y))
  | find4 (s y : Str) (i j : Int) : MethR .find (.str s) [.str y, .int i, .int j] (.int (match Builtin.Str.occurrences s y (fromIndex s.length i) (min (fromIndex s.length j) s.length) 1 with | k :: _ => (k : Int) | [] => -1))
  | join (s : Str) (xs : List V) (ts : List Str) (h1 : strsOf xs = some ts) (h2 : JoinOk s ts = true) : MethR .join (.str s) [.list xs] (.str (Txt.join s ts))
  | index (xs : List V) (k : Int) (is : List Int) (h : intsOf xs = some is) (hz : (is.all smallI && Nat.ble is.length 1000 && is.any fun x => decide (x = k)) = true) : MethR .index (.list xs) [.int k] (.int (Int.ofNat (is.idxOf k)))
  | count (xs : List V) (k : Int) (is : List Int) (h : intsOf xs = some is) : MethR .count (.list xs) [.int k] (.int (Int.ofNat (is.count k)))
  | get (ks vs : List V) (k : Int) (d : V) : MethR .get (.dict false ks vs) [.int k, d] ((lkV ks vs (.int k)).getD d)
theorem methS1 {m : Mt} {s : Str} {a v : V} (h : methS m s [a] = some v) : MethR m (.str s) [a] v := by
  have st : ∀ {f : Str → V} {m : Mt}, onS (fun y => some (f y)) a = some v → (∀ y, MethR m (.str s) [.str y] (f y)) → MethR m (.str s) [a] v := fun h k => by
    obtain ⟨y, rfl, h1⟩ := onS_inv h
    exact Option.some.inj h1 ▸ k y
  rcases m with ⟨⟩
  case startswith => exact st h (.starts s)
  case endswith => exact st h (.ends s)
  case find => exact st h (.find s)
  case rfind => exact st h (.rfind s)
  case join =>
    obtain ⟨xs, rfl, h1⟩ := onL_inv h
    rcases e : strsOf xs with _ | ts <;> rw [e] at h1
    · exact nos h1
    · obtain ⟨hz, rfl⟩ := conds h1
      exact .join s xs ts e hz
  all_goals exact nos h
theorem meth_r {m : Mt} {o : V} {as : List V} {v : V} (h : meth m o as = some v) : MethR m o as v := by
  rcases o with ⟨⟩
  case str s =>
    rcases as with _ | ⟨a, _ | ⟨b, _ | ⟨c, _ | ⟨d, r⟩⟩⟩⟩
    · exact nos h
    · exact methS1 h
    · exact nos h
    · rcases m with ⟨⟩
      case find =>
        obtain ⟨y, rfl, h1⟩ := onS_inv h
        obtain ⟨i, rfl, h2⟩ := onI_inv h1
        obtain ⟨j, rfl, h3⟩ := onI_inv h2
        exact Option.some.inj h3 ▸ .find4 s y i j
      all_goals exact nos h
    · exact nos h
  case list xs =>
    rcases as with _ | ⟨a, _ | ⟨b, r⟩⟩
    · exact nos h
    · rcases m with ⟨⟩
      case index =>
        obtain ⟨k, rfl, h1⟩ := onI_inv h
        rcases e : intsOf xs with _ | is <;> rw [e] at h1
        · exact nos h1
        · obtain ⟨hz, rfl⟩ := conds h1
          exact .index xs k is e hz
      case count =>
        obtain ⟨k, rfl, h1⟩ := onI_inv h
        rcases e : intsOf xs with _ | is <;> rw [e] at h1
        · exact nos h1
        · exact Option.some.inj h1 ▸ .count xs k is e
      all_goals exact nos h
    · exact nos h
  case dict st ks vs =>
    cases st with
    | true => exact nos h
    | false =>
    rcases as with _ | ⟨a, _ | ⟨b, _ | ⟨c, r⟩⟩⟩
    · exact nos h
    · exact nos h
    · rcases m with ⟨⟩
      case get =>
        obtain ⟨k, rfl, h1⟩ := onI_inv h
        exact Option.some.inj h1 ▸ .get ks vs k b
      all_goals exact nos h
    · exact nos h
  all_goals exact nos h
inductive MethOk (W : Wd) (B₀ : Heap) (m : Mt) (o : V) (as : List V) (v : V) : Prop
  | mk (T : String) (id : String) (h1 : PlainAttrs T) (h2 : Slot T (mtName m) id) (h3 : typeOf (.builtin id) = pure (.type "method_descriptor"))
    (h4 : ∀ (B : Heap) (s : Shared) x, Sub B s.heap → RV W B o x → s.TypeIs x T ∧ (∀ a, x = .ref a → ∃ ob, s.heap.get? a = some ob ∧ ob.dict = none))
    (h5 : ∀ {B ρ env cx σ s A' E Q x xs}, Sta W B₀ B ρ env cx σ s → RV W B o x → RVs W B as xs → Kont W B₀ env cx B ρ σ s v Q → wpAny (model W.prog W.w) A' (call (.builtin id) (x :: xs)) Q E s)
theorem RVs.one_inv {B : Heap} {v : V} {xs : List Value} (h : RVs W B [v] xs) : ∃ x, xs = [x] ∧ RV W B v x := by
  obtain ⟨x, ys, rfl, h1, h2⟩ := h.cons_inv
  exact ⟨x, by rw [h2.nil_inv], h1⟩
theorem ty_str {B : Heap} {s : Shared} {x : Value} {p : Str} (r : RV W B (.str p) x) : s.TypeIs x "str" ∧ (∀ a, x = .ref a → ∃ ob, s.heap.get? a = some ob ∧ ob.dict = none) := by
  obtain ⟨_, rfl⟩ := r.str_inv
  exact ⟨typeIs_str _ _ _, fun a e => nomatch e⟩
theorem meth_ss {m : Mt} {p y : Str} {v : V} {id : String} (h2 : Slot "str" (mtName m) id) (h3 : typeOf (.builtin id) = pure (.type "method_descriptor"))
    (h : ∀ {B ρ env cx σ s A' E Q t u}, Sta W B₀ B ρ env cx σ s → Kont W B₀ env cx B ρ σ s v Q → wpAny (model W.prog W.w) A' (call (.builtin id) [.str p t, .str y u]) Q E s) : MethOk W B₀ m (.str p) [.str y] v :=
  ⟨"str", id, PySem.F.plainAttrs_str, h2, h3, fun B s x _ r => ty_str r, fun X r rs k => by
    obtain ⟨_, rfl⟩ := r.str_inv
    obtain ⟨_, rfl, a⟩ := rs.one_inv
    obtain ⟨_, rfl⟩ := a.str_inv
    exact h X k⟩
theorem meth_slot {m : Mt} {o : V} {as : List V} {v : V} (h : meth m o as = some v) : MethOk W B₀ m o as v := by
  rcases meth_r h with ⟨p, y⟩ | ⟨p, y⟩ | ⟨p, y⟩ | ⟨p, y⟩ | ⟨p, y, i, j⟩ | ⟨p, xs, ts, hts, hj⟩ | ⟨xs, k0, is, his, hz⟩ | ⟨xs, k0, is, his⟩ | ⟨ks, vs, k0, d⟩
  · exact meth_ss PySem.F.slot_str_startswith PySem.F.type_str_startswith fun X k => PySem.SC.startswith (k.here X .bool)
  · exact meth_ss PySem.F.slot_str_endswith PySem.F.type_str_endswith fun X k => PySem.SC.endswith (k.here X .bool)
  · exact meth_ss PySem.F.slot_str_find PySem.F.type_str_find fun X k => PySem.SC.find (k.toks X _ .int)
  · exact meth_ss PySem.F.slot_str_rfind PySem.F.type_str_rfind fun X k => PySem.SC.rfind (k.toks X _ .int)
  · refine ⟨"str", _, PySem.F.plainAttrs_str, PySem.F.slot_str_find, PySem.F.type_str_find, fun B s x _ r => ty_str r, fun X r rs k => ?_⟩
    obtain ⟨_, rfl⟩ := r.str_inv
    obtain ⟨_, _, rfl, a, rs⟩ := rs.cons_inv
    obtain ⟨_, _, rfl, b, rs⟩ := rs.cons_inv
    obtain ⟨_, rfl, c⟩ := rs.one_inv
    obtain ⟨_, rfl⟩ := a.str_inv
    obtain ⟨_, rfl⟩ := b.int_inv
    obtain ⟨_, rfl⟩ := c.int_inv
    exact find4 (k.toks X _ .int)
  · refine ⟨"str", _, PySem.F.plainAttrs_str, PySem.F.slot_str_join, PySem.F.type_str_join, fun B s x _ r => ty_str r, fun X r rs k => ?_⟩
    obtain ⟨_, rfl⟩ := r.str_inv
    obtain ⟨_, rfl, a⟩ := rs.one_inv
    obtain ⟨l, its, rfl, hl, hi, _⟩ := a.isList
    obtain ⟨q, hq, hq2⟩ := strsAre_values (hi.strs hts)
    exact PySem.SC.join (l := q) (by rw [← hq]; exact X.list hl) hq2 hj fun t' kk => k.toks X _ .str
  · refine ⟨"list", _, PySem.F.plainAttrs_list, PySem.F.slot_list_index, PySem.F.type_list_index, fun B s x sb r => ?_, fun X r rs k => ?_⟩
    · obtain ⟨l, its, rfl, hl, hi, ob, ho, hd⟩ := r.isList
      exact ⟨(Heap.IsList.sub hl sb).typeIs, fun a e => by injection e with e; exact ⟨ob, e ▸ sb _ _ ho, hd⟩⟩
    · obtain ⟨l, its, rfl, hl, hi, _⟩ := r.isList
      obtain ⟨_, rfl, a⟩ := rs.one_inv
      obtain ⟨_, rfl⟩ := a.int_inv
      rw [Bool.and_eq_true_iff, Bool.and_eq_true_iff] at hz
      refine index_list_ints (X.list hl) (hi.ints his) (layable_ints hz.1.1 (Nat.le_of_ble_eq_true hz.1.2)) ?_ (k.toks X _ .int)
      obtain ⟨x, hx, e⟩ := List.any_eq_true.mp hz.2
      exact of_decide_eq_true e ▸ hx
  · refine ⟨"list", _, PySem.F.plainAttrs_list, PySem.F.slot_list_count, PySem.F.type_list_count, fun B s x sb r => ?_, fun X r rs k => ?_⟩
    · obtain ⟨l, its, rfl, hl, hi, ob, ho, hd⟩ := r.isList
      exact ⟨(Heap.IsList.sub hl sb).typeIs, fun a e => by injection e with e; exact ⟨ob, e ▸ sb _ _ ho, hd⟩⟩
    · obtain ⟨l, its, rfl, hl, hi, _⟩ := r.isList
      obtain ⟨_, rfl, a⟩ := rs.one_inv
      obtain ⟨_, rfl⟩ := a.int_inv
      exact count_list_ints (X.list hl) (hi.ints his) (k.toks X _ .int)
  · refine ⟨"dict", _, PySem.F.plainAttrs_dict, PySem.F.slot_dict_get, PySem.F.type_dict_get, fun B s x sb r => ?_, fun X r rs k => ?_⟩
    · obtain ⟨ad, f, ws, rfl, m1, m2, m3, m4⟩ := r.dictI_inv
      exact ⟨(Heap.MapOf.sub m1 sb).typeIs, (Heap.MapOf.sub m1 sb).noDict⟩
    · obtain ⟨ad, f, ws, rfl, m1, m2, m3, m4⟩ := r.dictI_inv
      obtain ⟨_, _, rfl, a, rs⟩ := rs.cons_inv
      obtain ⟨_, rfl, b⟩ := rs.one_inv
      obtain ⟨_, rfl⟩ := a.int_inv
      refine dict_get2 (knd := intKind W.prog W.w) (k := k0) (by simpa using m2) (intKind_is _ _ _ _) (Heap.MapOf.sub m1 X.stays) (k.toks X _ ?_)
      rw [m4]
      rcases e : lkV ks vs (.int k0) with _ | v
      · rw [m3.lk_none e]; exact b
      · obtain ⟨y, hy, hr⟩ := m3.lk e
        rw [hy]; exact hr
theorem methOk_inv {o : Expr} {es : List Expr} {apos pos : Pos} (h : methOk o es apos pos = true) : isCall0 o = false ∧ Nat.beq apos.endLine pos.line = true ∧ es.length < 20 := by
  have h := Bool.and_eq_true_iff.mp h
  have h2 := Bool.and_eq_true_iff.mp h.2
  exact ⟨not_tt h.1, h2.1, Nat.le_of_ble_eq_true h2.2⟩
theorem attr_any {o : Expr} {nm : Str} {env : Env} {m : Sem Value} (h : isCall0 o = false) : attributeBase o nm env m = m := by
  rcases o with ⟨⟩
  case Call f es ks p =>
    rcases es with _ | ⟨e, es⟩
    · exact tt_ff h
    · rcases f with ⟨⟩ <;> rfl
  all_goals rfl
theorem attr_base {o : Expr} {nm : Str} {env : Env} {es : List Expr} {apos pos : Pos} (h : methOk o es apos pos = true) : attributeBase o nm env (eval o env) = eval o env := by
  exact attr_any (methOk_inv h).1
theorem few_ok {es : List Expr} {as : List A} {pos apos : Pos} {o : Expr} (h : exs ih cx σ es = .ok as σ') (hm : methOk o es apos pos = true) :
    ((backTo pos (starEach es env)).all (fun x => !x.1) && (backToKw pos (keywordEach [] env)).all (fun x => x.1.isSome) && decide (es.length + ([] : List Keyword).length + (if ([] : List Keyword).isEmpty then 0 else 1) < 30)) = true := by
  have hp := backTo_plain (env := env) pos h
  have h1 : (backTo pos (starEach es env)).all (fun x => !x.1) = true := by
    rw [List.all_eq_true]
    intro x hx
    rw [List.any_eq_false] at hp
    simpa using hp x hx
  have h2 : es.length < 20 := (methOk_inv hm).2.2
  rw [h1]
  simp only [Bool.true_and, List.length_nil, List.isEmpty_nil, if_true, Bool.and_eq_true, decide_eq_true_eq]
  exact ⟨rfl, by omega⟩
theorem line_ok {es : List Expr} {pos apos : Pos} {o : Expr} (hm : methOk o es apos pos = true) : (apos.endLine == pos.line) = true := beq_iff_eq.mpr (Nat.eq_of_beq_eq_true (methOk_inv hm).2.1)
theorem keeper_builtin {M' : Model} {h : Heap} {id : String} : ∃ k, (k = Keeper.frame ∨ k = Keeper.machine ∨ k = Keeper.boundFrame) ∧ Looks M' h (keeperOf (.builtin id)) k :=
  ⟨.machine, .inr (.inl rfl), Looks.of_pure rfl⟩
theorem keeper_type {M' : Model} {h : Heap} {id : String} : ∃ k, (k = Keeper.frame ∨ k = Keeper.machine ∨ k = Keeper.boundFrame) ∧ Looks M' h (keeperOf (.type id)) k :=
  ⟨.machine, .inr (.inl rfl), Looks.of_pure rfl⟩
theorem meth_sound (H : IhOk W g B₀ ih n) (hA : Room W A' n) (X : Sta W B₀ B ρ env cx σ s) {o : Expr} {nm : Str} {m : Mt} {es : List Expr} {apos pos : Pos} {ov v : V} {as : List V} {σ₁ : S} (hm : mtOf nm = some m) (hk : methOk o es apos pos = true)
    (h1 : ih.ex cx σ o = .ok (.val ov) σ₁) (h2 : exVs ih cx σ₁ es = .ok as σ') (h3 : meth m ov as = some v) :
    wpAny (model W.prog W.w) A' (eval (.Call (.Attribute o nm apos) es [] pos) env) (Good W B₀ env cx B ρ s σ' fun B' ρ' x => RA W B' ρ' (.val v) x) No s := by
  obtain rfl := mtOf_name hm
  obtain ⟨T, id, t1, t2, t3, t4, t5⟩ := meth_slot (W := W) (B₀ := B₀) h3
  unfold exVs at h2
  obtain ⟨as', σ₂, g1, g2⟩ := Out.bind_ok h2
  obtain ⟨g3, rfl⟩ := Out.of_ok g2
  refine wpAny_Call_method (attr_base hk) (few_ok g1 hk) (line_ok hk) t1 t2 t3 ?_
  refine exV H h1 hA X fun B₁ ρ₁ s₁ x e1 st1 r1 => ⟨(t4 _ _ _ st1.stays r1).1, (t4 _ _ _ st1.stays r1).2, ?_⟩
  refine callW H hA g1 st1 (fun _ _ => keeper_builtin) fun B₂ ρ₂ s₂ xs e2 st2 r2 => ?_
  exact t5 st2 (r1.mono e2.sub) (r2.vals g3) fun B' s' y e st r => ⟨B', ρ₂, (e1.trans e2).trans e, st, .val r⟩
end
end

section
open PySem PySem.Calls PyProof.Rows PySem.W
set_option backward.match.sparseCases false
theorem runs_size {M : Model} {Γ : Ctx} {p : Pos} {t : Sem Fin} {fs : List Frame} {s s' : Shared} {e : End} (h : Runs M Γ p t fs s e s') : s.heap.objs.size ≤ s'.heap.objs.size := by
  induction h <;> (try simp only [Shared.setGen, Heap.size_push, Heap.size_after_update] at *) <;> omega
theorem returns_size {M : Model} {Γ : Ctx} {p : Pos} {s s' : Shared} {r : Result} (h : Returns M Γ p s r s') : s.heap.objs.size ≤ s'.heap.objs.size := runs_size h
theorem wakes_size {M : Model} {Γ : Ctx} {p : Pos} {g : Nat} {r : Resume} {s s' : Shared} {res : GenResult} (h : Wakes M Γ p g r s res s') : s.heap.objs.size ≤ s'.heap.objs.size := by
  unfold Wakes at h
  split at h
  · exact h.elim
  · split at h
    · obtain ⟨e₁, s₁, hr, _, _, rfl⟩ := h; exact (runs_size hr : (s.setGen g .running).heap.objs.size ≤ s₁.heap.objs.size)
    · rw [h.2]; exact Nat.le_refl _
    · rw [h.2]; exact Nat.le_refl _
  · obtain ⟨e₁, s₁, hr, _, _, rfl⟩ := h; exact (runs_size hr : (s.setGen g .running).heap.objs.size ≤ s₁.heap.objs.size)
  · rw [h.2]; exact Nat.le_refl _
  · rw [h.2]; exact Nat.le_refl _
theorem wp_size {α : Type} (M : Model) (Γ : Ctx) (n : Nat) (t : Sem α) : ∀ (Q : α → Pos → Shared → Prop) (E : Value → Pos → Shared → Prop) (p : Pos) (s : Shared), n ≤ s.heap.objs.size → Sem.wp M Γ t Q E p s →
    Sem.wp M Γ t (fun a p' s' => n ≤ s'.heap.objs.size ∧ Q a p' s') (fun e p' s' => n ≤ s'.heap.objs.size ∧ E e p' s') p s := by
  induction t with
  | pure a => intro Q E p s hn h; exact ⟨hn, h⟩
  | raise e => intro Q E p s hn h; exact ⟨hn, h⟩
  | unsupported _ => intro Q E p s _ h; exact h
  | finish _ => intro Q E p s _ h; exact h
  | rule _ k ih => intro Q E p s hn h; exact ih () Q E p s hn h
  | «at» p' k ih => intro Q E p s hn h; exact ih () Q E p' s hn h
  | load a _ k ih => intro Q E p s hn h; obtain ⟨o, ho, h⟩ := h; exact ⟨o, ho, ih o Q E p s hn h⟩
  | update a _ f k ih => intro Q E p s hn h; exact ⟨h.1, ih () Q E p _ (by simpa using hn) h.2⟩
  | loadIfAlive a k ih => intro Q E p s hn h; exact ih _ Q E p s hn h
  | point _ k ih => intro Q E p s hn h; exact ih () Q E p s hn h
  | register _ _ => intro Q E p s _ h; exact h
  | alloc o k ih => intro Q E p s hn h; exact ih _ Q E p _ (by simpa using Nat.le_succ_of_le hn) h
  | fresh k ih => intro Q E p s hn h; exact ih _ Q E p _ hn h
  | ask k ih => intro Q E p s hn h; exact ih _ Q E p s hn h
  | choose src m k ih => intro Q E p s hn h; exact ⟨h.1, ih _ Q E p _ hn h.2⟩
  | os q _ k ih => intro Q E p s hn h; exact ih _ Q E p _ hn h
  | call c hd _ _ k ih => intro Q E p s hn h; obtain ⟨r, s', hr, h⟩ := h; exact ⟨r, s', hr, ih r Q E p s' (Nat.le_trans hn (returns_size hr)) h⟩
  | handled own k ih => intro Q E p s hn h; exact ih _ Q E p s hn h
  | genState g k ih => intro Q E p s hn h; obtain ⟨st, hs, h⟩ := h; exact ⟨st, hs, ih _ Q E p s hn h⟩
  | newGen c k ih => intro Q E p s hn h; exact ih _ Q E p _ hn h
  | resume g r _ k ih => intro Q E p s hn h; obtain ⟨res, s', hw, h⟩ := h; exact ⟨res, s', hw, ih res Q E p s' (Nat.le_trans hn (wakes_size hw)) h⟩
  | yield _ _ _ _ => intro Q E p s _ h; exact h
  | stack k ih => intro Q E p s hn h; exact ih _ Q E p s hn h
  | fork _ _ => intro Q E p s _ h; exact h
  | thread k ih => intro Q E p s hn h; exact ih _ Q E p s hn h
  | await _ _ _ _ _ => intro Q E p s _ h; exact h
section
variable {α : Type} {M : Model} {A : Around} {s : Shared}
theorem with_size {t : Sem α} {Q : α → Shared → Prop} {E : Value → Shared → Prop} (h : wpAny M A t (fun a s' => s.heap.objs.size ≤ s'.heap.objs.size → Q a s') E s) : wpAny M A t Q E s :=
  fun Γ p hΓ => Sem.wp_mono M Γ t (fun _ _ _ x => x.2 x.1) (fun _ _ _ x => x.2) p s (wp_size M Γ s.heap.objs.size t _ _ p s (Nat.le_refl _) (h Γ p hΓ))
end
end

section
open PySem PySem.Calls PyProof.Rows PySem.W
set_option backward.match.sparseCases false
set_option maxRecDepth 100000
set_option linter.unusedVariables false
noncomputable abbrev Up (xs : Array Nat) : Prop := xs.toList.Pairwise (· < ·)
theorem Up.lt {xs : Array Nat} (h : Up xs) {i m : Nat} {a b : Nat} (ha : xs[i]? = some a) (hb : xs[m]? = some b) (him : i < m) : a < b := by
  rw [← Array.getElem?_toList] at ha hb
  obtain ⟨h1, rfl⟩ := List.getElem?_eq_some_iff.mp ha
  obtain ⟨h2, rfl⟩ := List.getElem?_eq_some_iff.mp hb
  exact List.pairwise_iff_getElem.mp h _ _ h1 h2 him
theorem Up.le {xs : Array Nat} (h : Up xs) {i m : Nat} {a b : Nat} (ha : xs[i]? = some a) (hb : xs[m]? = some b) (him : i ≤ m) : a ≤ b := by
  rcases Nat.lt_or_eq_of_le him with q | rfl
  · exact Nat.le_of_lt (h.lt ha hb q)
  · rw [Option.some.inj (ha.symm.trans hb)]; exact Nat.le_refl _
structure Bel (xs : Array Nat) (j k : Nat) : Prop where
  le : k ≤ xs.size
  lo : ∀ i a, i < k → xs[i]? = some a → a < j
  hi : ∀ i a, k ≤ i → xs[i]? = some a → j ≤ a
theorem below_go {xs : Array Nat} (up : Up xs) (j : Nat) : ∀ (fuel lo hi : Nat), hi ≤ xs.size → lo ≤ hi → hi - lo ≤ fuel → (∀ i a, i < lo → xs[i]? = some a → a < j) → (∀ i a, hi ≤ i → xs[i]? = some a → j ≤ a) →
    Bel xs j (SetTable.below.go xs j fuel lo hi)
  | 0, lo, hi, h1, h2, h3, h4, h5 => by
    have e : lo = hi := Nat.le_antisymm h2 (Nat.sub_eq_zero_iff_le.mp (Nat.le_zero.mp h3))
    subst e
    exact ⟨h1, h4, h5⟩
  | fuel + 1, lo, hi, h1, h2, h3, h4, h5 => by
    unfold SetTable.below.go
    by_cases hl : lo < hi
    · rw [if_pos hl]
      have hm : (lo + hi) / 2 < hi := by omega
      have hm2 : lo ≤ (lo + hi) / 2 := by omega
      generalize (lo + hi) / 2 = mid at hm hm2
      have hmid : xs[mid]? = some (xs[mid]'(Nat.lt_of_lt_of_le hm h1)) := Array.getElem?_eq_getElem _
      have hg : xs.getD mid j = xs[mid]'(Nat.lt_of_lt_of_le hm h1) := by rw [Array.getD_eq_getD_getElem?, hmid]; rfl
      dsimp only
      rw [hg]
      generalize xs[mid]'(Nat.lt_of_lt_of_le hm h1) = b at hmid
      by_cases hb : b < j
      · rw [if_pos hb]
        exact below_go up j fuel (mid + 1) hi h1 hm (by omega) (fun i a hi' ha => Nat.lt_of_le_of_lt (up.le ha hmid (Nat.le_of_lt_succ hi')) hb) h5
      · rw [if_neg hb]
        exact below_go up j fuel lo mid (Nat.le_trans (Nat.le_of_lt hm) h1) hm2 (by omega) h4 fun i a hi' ha => Nat.le_trans (Nat.not_lt.mp hb) (up.le hmid ha hi')
    · rw [if_neg hl]
      have e : lo = hi := Nat.le_antisymm h2 (Nat.not_lt.mp hl)
      subst e
      exact ⟨h1, h4, h5⟩
theorem below_ok {xs : Array Nat} (up : Up xs) (j : Nat) : Bel xs j (SetTable.below xs j) :=
  below_go up j xs.size 0 xs.size (Nat.le_refl _) (Nat.zero_le _) (Nat.le_refl _) (fun i a h => absurd h (Nat.not_lt_zero _)) (fun i a h ha => absurd (Array.getElem?_eq_some_iff.mp ha).1 (Nat.not_lt.mpr h))
theorem below_at {xs : Array Nat} (up : Up xs) {j k : Nat} (hk : k ≤ xs.size) (h1 : ∀ i a, i < k → xs[i]? = some a → a < j) (h2 : ∀ i a, k ≤ i → xs[i]? = some a → j ≤ a) : SetTable.below xs j = k := by
  have b := below_ok up j
  rcases Nat.lt_trichotomy (SetTable.below xs j) k with q | q | q
  · have hz : SetTable.below xs j < xs.size := Nat.lt_of_lt_of_le q hk
    exact absurd (h1 _ _ q (Array.getElem?_eq_getElem hz)) (Nat.not_lt.mpr (b.hi _ _ (Nat.le_refl _) (Array.getElem?_eq_getElem hz)))
  · exact q
  · have hz : k < xs.size := Nat.lt_of_lt_of_le q b.le
    exact absurd (b.lo _ _ q (Array.getElem?_eq_getElem hz)) (Nat.not_lt.mpr (h2 _ _ (Nat.le_refl _) (Array.getElem?_eq_getElem hz)))
structure TabI (b : Bool) (t : SetTable) : Prop where
  dum : t.dummies = #[]
  up : Up t.place
  led : t.led = b
theorem has_nil (j : Nat) : SetTable.has #[] j = false := rfl
theorem slot_empty {t : SetTable} (hd : t.dummies = #[]) {j : Nat} : t.slot j ≠ .dummy := by
  unfold SetTable.slot
  rw [hd, has_nil]
  dsimp only
  split <;> simp
theorem probe_go {t : SetTable} (hd : t.dummies = #[]) {f : Nat → Int} {h : Int} : ∀ (fuel : Nat) (p : SetTable.Probe) (j : Nat) (dm : Option Nat), p.dummy = none → SetTable.probe.go t f h fuel p = some (.empty j dm) → dm = none ∧ t.slot j = .empty
  | 0, _, _, _, _, e => nomatch e
  | fuel + 1, p, j, dm, hp, e => by
    unfold SetTable.probe.go at e
    cases q : t.slot p.j with
    | empty =>
      rw [q] at e
      injection e with e
      injection e with e1 e2
      exact ⟨e2.symm.trans hp, e1 ▸ q⟩
    | dummy => exact absurd q (slot_empty hd)
    | live i =>
      rw [q] at e
      dsimp only at e
      split at e
      · injection e with e; cases e
      · exact probe_go hd fuel _ j dm (by unfold SetTable.advance; split <;> exact hp) e
theorem free_slot {t : SetTable} (hd : t.dummies = #[]) {h : Int} {slot : Nat} {b : Bool} (e : t.freeSlot h = some (slot, b)) : t.place[SetTable.below t.place slot]? ≠ some slot := by
  unfold SetTable.freeSlot at e
  split at e
  · rename_i j dm q
    obtain ⟨rfl, hs⟩ := probe_go hd _ _ _ _ rfl q
    injection e with e
    injection e with e1 _
    have e1 : j = slot := e1
    subst e1
    intro z
    unfold SetTable.slot at hs
    dsimp only at hs
    rw [z] at hs
    simp at hs
  · cases e
theorem put_up {t : SetTable} (h : Up t.place) {j : Nat} (hn : t.place[SetTable.below t.place j]? ≠ some j) : Up (t.put j).1.place := by
  have b := below_ok h j
  show List.Pairwise _ (SetTable.insertAt t.place (SetTable.below t.place j) j).toList
  rw [SetTable.toList_insertAt]
  generalize hp : SetTable.below t.place j = p at b hn
  have lo : ∀ a ∈ t.place.toList.take p, a < j := fun a ha => by
    obtain ⟨i, hi⟩ := List.getElem?_of_mem ha
    have hip : i < p := by
      have := (List.getElem?_eq_some_iff.mp hi).1
      rw [List.length_take] at this
      exact Nat.lt_of_lt_of_le this (Nat.min_le_left _ _)
    rw [List.getElem?_take_of_lt hip] at hi
    exact b.lo i a hip (by rw [← Array.getElem?_toList]; exact hi)
  have hi : ∀ a ∈ t.place.toList.drop p, j < a := fun a ha => by
    obtain ⟨i, hi⟩ := List.getElem?_of_mem ha
    rw [List.getElem?_drop, Array.getElem?_toList] at hi
    have hle := b.hi (p + i) a (Nat.le_add_right _ _) hi
    refine Nat.lt_of_le_of_ne hle fun e => ?_
    subst e
    have hz : p < t.place.size := Nat.lt_of_le_of_lt (Nat.le_add_right _ _) (Array.getElem?_eq_some_iff.mp hi).1
    have h1 := b.hi p _ (Nat.le_refl _) (Array.getElem?_eq_getElem hz)
    have h2 := h.le (Array.getElem?_eq_getElem hz) hi (Nat.le_add_right _ _)
    exact hn (by rw [Array.getElem?_eq_getElem hz, Nat.le_antisymm h2 h1])
  refine List.pairwise_append.mpr ⟨h.sublist (List.take_sublist _ _), List.pairwise_cons.mpr ⟨hi, h.sublist (List.drop_sublist _ _)⟩, fun a ha c hc => ?_⟩
  rcases List.mem_cons.mp hc with rfl | hc
  · exact lo a ha
  · exact Nat.lt_trans (lo a ha) (hi c hc)
theorem TabI.standIn {b : Bool} {t : SetTable} (h : TabI b t) (n : Nat) : TabI b (t.standIn n) := by
  refine ⟨rfl, ?_, h.led⟩
  show List.Pairwise _ (Array.range n).toList
  rw [Array.toList_range]
  exact List.pairwise_lt_range
theorem TabI.orStandIn {b : Bool} {t : SetTable} (h : TabI b t) (n : Nat) : TabI b (t.orStandIn n) := by
  unfold SetTable.orStandIn
  split
  · exact h
  · exact h.standIn n
theorem TabI.put {b : Bool} {t : SetTable} (h : TabI b t) {j : Nat} (hn : t.place[SetTable.below t.place j]? ≠ some j) : TabI b (t.put j).1 :=
  ⟨by show (if SetTable.has t.dummies j then _ else t.dummies) = _; rw [h.dum, has_nil]; rfl, put_up h.up hn, h.led⟩
theorem TabI.off {b : Bool} {t : SetTable} (h : TabI b t) : TabI b { t with plain := false } := ⟨h.dum, h.up, h.led⟩
theorem TabI.layNew {b : Bool} {t : SetTable} (h : TabI b t) (es : Array (Int × Value)) (hs : Int) (x : Value) : TabI b (layNew t es hs x).2.1 := by
  unfold PySem.layNew
  split
  · rename_i slot wd q
    exact (h.put (free_slot h.dum q)).orStandIn _
  · exact h.standIn _
theorem laid_tab {mask f m : Nat} {b p : Bool} {hs : Array Int} {t' : SetTable} {ord : Array Nat} (e : SetTable.laid mask f m b p hs = some (t', ord)) : TabI b t' := by
  unfold SetTable.laid at e
  cases q : SetTable.layClean mask hs with
  | none => rw [q] at e; cases e
  | some owner =>
    rw [q] at e
    injection e with e
    injection e with e1 _
    subst e1
    refine ⟨rfl, ?_, rfl⟩
    show List.Pairwise _ (List.toArray _).toList
    rw [List.toList_toArray, List.pairwise_map]
    refine List.Pairwise.filterMap (R := (· < ·)) _ (fun a a' hlt c hc c' hc' => ?_) List.pairwise_lt_range
    obtain ⟨_, _, rfl⟩ := Option.map_eq_some_iff.mp hc
    obtain ⟨_, _, rfl⟩ := Option.map_eq_some_iff.mp hc'
    exact hlt
theorem TabI.relay {b : Bool} {t : SetTable} (h : TabI b t) (es : Array (Int × Value)) (n : Nat) : TabI b (relayAll t es n).2.1 := by
  unfold relayAll
  split
  · rename_i t' order q
    dsimp only
    split
    · have := laid_tab q
      rw [h.led] at this
      exact this
    · exact h.standIn _
  · exact h.standIn _
end

section
open PySem PySem.Calls PyProof.Rows PySem.W
set_option backward.match.sparseCases false
set_option maxRecDepth 100000
set_option linter.unusedVariables false
noncomputable def ival : Value → Int
  | .int k _ => k
  | _ => 0
theorem any_mem {σ : List Int} {k : Int} : (σ.any fun y => decide (k = y)) = true ↔ k ∈ σ := by
  rw [List.any_eq_true]
  exact ⟨fun ⟨y, hy, e⟩ => of_decide_eq_true e ▸ hy, fun h => ⟨k, h, decide_eq_true rfl⟩⟩
theorem addI_len (σ : List Int) (k : Int) : (addI σ k).length ≤ σ.length + 1 := by
  unfold addI
  cases σ.any fun y => decide (k = y)
  · exact Nat.le_refl _
  · exact Nat.le_succ _
inductive SetI (prog : Program) (w : World) (b : Bool) (h : Heap) (a : Addr) (σ : List Int) : Prop
  | mk (o : Obj) (es : Array (Int × Value)) (ep : Nat) (t : SetTable) (h1 : h.get? a = some o) (h2 : o.ExactSet) (h3 : o.data = .set es ep t) (h4 : ElemsOf (intKind prog w) es.toList)
    (h5 : (es.toList.map fun e => ival e.2).Perm σ) (h6 : es.size < scanBound) (h7 : t.fits es.size = true) (h8 : TabI b t)
section
variable {prog : Program} {w : World} {A : Around} {E : Value → Shared → Prop} {s : Shared} {b : Bool}
theorem SetI.at {h h' : Heap} {a : Addr} {σ : List Int} (x : SetI prog w b h a σ) (k : ∀ o, h.get? a = some o → h'.get? a = some o) : SetI prog w b h' a σ := by
  obtain ⟨o, es, ep, t, h1, r⟩ := x
  exact ⟨o, es, ep, t, k _ h1, by assumption, by assumption, by assumption, by assumption, by assumption, by assumption, by assumption⟩
theorem el_int {es : Array (Int × Value)} (h : ElemsOf (intKind prog w) es.toList) {e : Int × Value} (he : e ∈ es.toList) : ∃ t, e.2 = .int (ival e.2) t := by
  obtain ⟨⟨k, hk, _⟩, _⟩ := h e he
  obtain ⟨t, ht⟩ := Value.isInt_shape hk
  exact ⟨t, by rw [ht]; rfl⟩
theorem el_mem {es : Array (Int × Value)} (h : ElemsOf (intKind prog w) es.toList) {σ : List Int} (hp : (es.toList.map fun e => ival e.2).Perm σ) {k : Int} : k ∈ σ ↔ ∃ e ∈ es.toList, (intKind prog w).is k e.2 = true := by
  rw [← hp.mem_iff, List.mem_map]
  constructor
  · rintro ⟨e, he, rfl⟩
    obtain ⟨t, ht⟩ := el_int h he
    exact ⟨e, he, by rw [ht]; exact intKind_is prog w _ _⟩
  · rintro ⟨e, he, hk⟩
    obtain ⟨t, ht⟩ := Value.isInt_shape hk
    exact ⟨e, he, by rw [ht]; rfl⟩
theorem store_I {h : Heap} {a : Addr} {o : Obj} {es : Array (Int × Value)} {ep : Nat} {t : SetTable} (ho : h.get? a = some o) (hd : o.data = .set es ep t) (es' : Array (Int × Value)) (t' : SetTable) :
    (h.update a (Obj.putSet es' t')).get? a = some { o with data := .set es' (ep + 1) t' } := by
  have := Heap.get?_update_self (Obj.putSet es' t') ho (by rw [putSet_of es' t' hd]; rfl)
  rw [putSet_of es' t' hd] at this; exact this
theorem tail_I {g : Bool → Sem Unit} (hg : ∀ (b : Bool) (s₁ : Shared) (Q' : Unit → Shared → Prop), Q' () s₁ → wpAny (model prog w) A (g b) Q' E s₁)
    {a : Addr} {o : Obj} {es : Array (Int × Value)} {ep : Nat} {t : SetTable} (ho : s.heap.get? a = some o) (hex : o.ExactSet) (hd : o.data = .set es ep t)
    {es1 : Array (Int × Value)} {t2 : SetTable} {σ' : List Int} (hel1 : ElemsOf (intKind prog w) es1.toList) (hp1 : (es1.toList.map fun e => ival e.2).Perm σ') (hb1 : es1.size < scanBound) (hf2 : t2.fits es1.size = true) (ht : TabI b t2) {wasDummy : Bool}
    {R : Option Bool → Shared → Prop} (h : ∀ h', Heap.SameBut a s.heap h' → SetI prog w b h' a σ' → R (some true) { s with heap := h' }) :
    wpAny (model prog w) A (do
        storeSet a es1 t2
        if (!wasDummy && t2.tooFull) = true then do
            g (relayAll t2 es1 (SetTable.grown es1.size)).2.2
            storeSet a (relayAll t2 es1 (SetTable.grown es1.size)).1 (relayAll t2 es1 (SetTable.grown es1.size)).2.1
            pure (some true)
          else pure (some true)) R E s := by
  refine wpAny_bind (wpAny_storeSet_of ho hd ?_ (fits_of_scanBound hb1))
  have ho1 := store_I ho hd es1 t2
  have hsb1 := Heap.SameBut.update s.heap a (Obj.putSet es1 t2)
  split
  · have hp := relayAll_perm t2 es1 (SetTable.grown es1.size)
    have hfr := relayAll_fits t2 es1 (SetTable.grown es1.size)
    have htr := ht.relay es1 (SetTable.grown es1.size)
    generalize relayAll t2 es1 (SetTable.grown es1.size) = Rl at hp hfr htr ⊢
    obtain ⟨es2, t3, gave2⟩ := Rl
    dsimp only at hp hfr htr ⊢
    have hsz : es2.size = es1.size := by rw [← Array.length_toList, hp.length_eq, Array.length_toList]
    have hb2 : es2.size < scanBound := by rw [hsz]; exact hb1
    refine wpAny_bind (hg _ _ _ ?_)
    refine wpAny_bind (wpAny_storeSet_of ho1 rfl ?_ (fits_of_scanBound hb2))
    have ho2 := store_I ho1 rfl es2 t3
    exact wpAny_pure (h _ (hsb1.trans (Heap.SameBut.update _ a _)) ⟨_, _, _, _, ho2, hex, rfl, hel1.perm hp, (hp.map _).trans hp1, hb2, hfr, htr⟩)
  · exact wpAny_pure (h _ hsb1 ⟨_, _, _, _, ho1, hex, rfl, hel1, hp1, hb1, hf2, ht⟩)
theorem setAdd_I {a : Addr} {σ : List Int} {k : Int} {u : Tok} {Q : Bool → Shared → Prop} (hS : SetI prog w b s.heap a σ) (hroom : σ.length + 1 < scanBound)
    (h : ∀ r h', Heap.SameBut a s.heap h' → SetI prog w b h' a (addI σ k) → Q r { s with heap := h' }) :
    wpAny (model prog w) A (setAddHashed a (.int k u) ((intKind prog w).hash k)) Q E s := by
  obtain ⟨o, es, ep, t, ho, hex, hd, hel, hp, hb, hf, ht⟩ := hS
  have hkey := intKind_is prog w k u
  have hlen : es.size = σ.length := by rw [← hp.length_eq, List.length_map, Array.length_toList]
  unfold setAddHashed setAddHashedIn
  refine wpAny_holding (wpAny_bind (wpAny_setState_of ho hd hf ?_))
  dsimp only
  rw [byScan_of rfl hb hel]
  simp only [↓reduceIte]
  unfold setAddByScan
  refine wpAny_bind ?_
  refine wpAny_bind (wpAny_rule ?_)
  refine wpAny_bind (wpAny_setScan_of hkey ho hd hf hel ?_)
  have hm := el_mem hel hp (k := k)
  cases hr : List.findIdx? (fun e => (intKind prog w).is k e.2) es.toList with
  | some j =>
    dsimp only
    obtain ⟨hj, hpj, _⟩ := List.findIdx?_eq_some_iff_getElem.mp hr
    have hin := hm.mpr ⟨es.toList[j], List.getElem_mem hj, hpj⟩
    refine wpAny_pure (wpAny_pure ?_)
    refine h false s.heap (Heap.SameBut.refl a s.heap) ?_
    unfold addI
    rw [any_mem.mpr hin]
    exact ⟨o, es, ep, t, ho, hex, hd, hel, hp, hb, hf, ht⟩
  | none =>
    dsimp only
    have hnot : k ∉ σ := fun z => by
      obtain ⟨e, he, hq⟩ := hm.mp z
      have := List.findIdx?_eq_none_iff.mp hr e he
      rw [hq] at this; exact Bool.noConfusion this
    have e0 : addI σ k = k :: σ := by
      unfold addI
      cases q : σ.any fun y => decide (k = y) with
      | false => rfl
      | true => exact absurd (any_mem.mp q) hnot
    rw [e0] at h
    have hgw : ∀ (b : Bool) {s₁ : Shared} {Q' : Unit → Shared → Prop}, Q' () s₁ → wpAny (model prog w) A (match b with | true => rule "set.scan.the-table-gave-way" | false => pure ()) Q' E s₁ :=
      fun b s₁ Q' hq => by cases b <;> first | exact wpAny_pure hq | exact wpAny_rule hq
    have hperm := layNew_perm t es ((intKind prog w).hash k) (.int k u)
    have hfits := layNew_fits t es ((intKind prog w).hash k) (.int k u)
    have htab := ht.layNew es ((intKind prog w).hash k) (.int k u)
    generalize layNew t es ((intKind prog w).hash k) (.int k u) = L at hperm hfits htab ⊢
    obtain ⟨es1, t1, wasDummy, gave⟩ := L
    dsimp only at hperm hfits htab ⊢
    rw [Array.toList_push] at hperm
    have hel1 : ElemsOf (intKind prog w) es1.toList := (hel.push hkey rfl).perm hperm
    have hp1 : (es1.toList.map fun e => ival e.2).Perm (k :: σ) := by
      refine (hperm.map _).trans ?_
      rw [List.map_append]
      exact (hp.append_right _).trans (List.perm_append_singleton k σ)
    have hb1' : es1.size < scanBound := by
      rw [← Array.length_toList, hperm.length_eq, List.length_append, Array.length_toList, hlen]; exact hroom
    refine wpAny_bind (hgw _ ?_)
    have hend : ∀ h', Heap.SameBut a s.heap h' → SetI prog w b h' a (k :: σ) → Q true { s with heap := h' } := fun h' hsb hS' => h true h' hsb hS'
    split
    · refine wpAny_bind ?_
      rw [hashByValue_scannable 8 rfl]
      refine wpAny_pure ?_
      refine tail_I (b := b) ?_ ho hex hd hel1 hp1 hb1' ?_ ?_ ?_
      · intro b s₁ Q' hq; cases b <;> first | exact wpAny_pure hq | exact wpAny_rule hq
      · split
        · exact hfits
        · exact SetTable.fits_plain_off hfits
      · split
        · exact htab
        · exact htab.off
      · intro h' hsb hS'; dsimp only; exact wpAny_pure (hend h' hsb hS')
    · refine wpAny_bind (wpAny_pure ?_)
      simp only [↓reduceIte]
      refine tail_I ?_ ho hex hd hel1 hp1 hb1' hfits htab ?_
      · intro b s₁ Q' hq; cases b <;> first | exact wpAny_pure hq | exact wpAny_rule hq
      · intro h' hsb hS'; dsimp only; exact wpAny_pure (hend h' hsb hS')
theorem foldI_len : ∀ (is : List Int) (σ : List Int), (is.foldl addI σ).length ≤ is.length + σ.length
  | [], σ => by simp
  | k :: r, σ => by
    have h1 := foldI_len r (addI σ k)
    have h2 := addI_len σ k
    rw [List.foldl_cons, List.length_cons]
    omega
end
section
variable {prog : Program} {w : World} {A : Around} {R : Result → Shared → Prop} {I : Addr} {fp wr : List Addr} {G : Array GenState → Array GenState → Prop} {n : Nat} {P : Nat → Value → Prop} {St : Nat → Shared → Prop} {b : Bool}
theorem update_loop_I (W : WalksS prog w A.in1 I fp wr G n P St) (S : Addr) (hSf : S ∉ fp) (is : List Int) (hn : is.length = n) (hval : ∀ i v, P i v → ∃ k t, is[i]? = some k ∧ v = .int k t) (hb : n + 1 < scanBound) :
    ∀ (k i : Nat) (s : Shared), n - i = k → i ≤ n → St i s → SetI prog w b s.heap S ((is.take i).foldl addI []) →
      (∀ s', Moved (S :: wr) G s s' → SetI prog w b s'.heap S (is.foldl addI []) → R (.ok (.ret .none)) s') →
      codeAny (model prog w) A (.builtin "set.update.loop" ⟨[.ref S, .ref I], []⟩) R s := by
  have hSw : S ∉ wr := fun h => hSf (W.sub _ h)
  have hsub : ∀ b ∈ wr, b ∈ S :: wr := fun b hb => List.mem_cons_of_mem _ hb
  intro k
  induction k with
  | zero =>
    intro i s hk hi hst hS hR
    have hin : i = n := by omega
    subst hin
    refine codeAny_builtin PyProof.Rows.F.entry_set_update_loop ?_
    rw [Around.under_plainId PyProof.Rows.F.plain_set_update_loop _]
    show wpAny _ A.in1 (pyNext (.ref I) >>= _) _ _ s
    refine wpAny_bind (W.done s _ _ hst fun s' hm => ?_)
    show wpAny _ A.in1 (ret Value.none) _ _ s'
    rw [List.take_of_length_le (Nat.le_of_eq hn)] at hS
    exact wpAny_pure (hR s' (hm.mono hsub) (hS.at fun o e => hm.heap S _ hSw e))
  | succ k ih =>
    intro i s hk hi hst hS hR
    have hlt : i < n := by omega
    refine codeAny_builtin PyProof.Rows.F.entry_set_update_loop ?_
    rw [Around.under_plainId PyProof.Rows.F.plain_set_update_loop _]
    show wpAny _ A.in1 (pyNext (.ref I) >>= _) _ _ s
    refine wpAny_bind (W.item i s _ _ hlt hst fun v s' hP hst' hm => ?_)
    obtain ⟨q, t, hq, rfl⟩ := hval i v hP
    have hS' := hS.at fun o e => hm.heap S _ hSw e
    show wpAny _ A.in1 (holding [Value.int q t] (setAdd S (.int q t)) >>= _) _ _ s'
    refine wpAny_bind (wpAny_holding ?_)
    unfold setAdd
    refine wpAny_holding ?_
    refine wpAny_bind ((intKind prog w).pyHash (k := q) (intKind_is _ _ _ _) ?_)
    have hroom : ((is.take i).foldl addI []).length + 1 < scanBound := by
      have h1 := foldI_len (is.take i) []
      rw [List.length_take, List.length_nil] at h1
      omega
    refine setAdd_I (s := { s' with toks := s'.toks + 1 }) hS' hroom fun r h' hsb hS2 => ?_
    have hS3 : SetI prog w b h' S ((is.take (i + 1)).foldl addI []) := by
      rw [List.take_add_one, hq, List.foldl_append]; exact hS2
    refine wpAny_pure ⟨plainId_quiet PyProof.Rows.F.plain_set_update_loop _, ih (i + 1) _ (by omega) hlt (W.frame _ s' _ _ hst' (Nat.le_succ _) fun b hb o e => ?_) hS3 fun s'' hm'' hS'' => ?_⟩
    · rw [hsb.2 b (fun h : b = S => hSf (by rw [← h]; exact hb))]; exact e
    · refine hR s'' (Moved.trans W.gtrans ((hm.mono hsub).then_heap (Nat.le_succ _) fun b o hb e => ?_) hm'') hS''
      rw [hsb.2 b (fun h : b = S => hb (by rw [h]; exact List.mem_cons_self))]; exact e
end
end

section
open PySem PySem.Calls PyProof.Rows PySem.W
set_option backward.match.sparseCases false
set_option maxRecDepth 100000
set_option linter.unusedVariables false
noncomputable def ledOf (w : World) : Bool := !(w.params.followText "set-order")
section
variable {prog : Program} {w : World} {A : Around} {E : Value → Shared → Prop} {s : Shared}
theorem set_new_I (a : Value) {Q₁ : Value → Shared → Prop}
    (h : Q₁ (.ref s.heap.objs.size) { s with heap := s.heap.push { cls := .type "set", dict := none, data := .set #[] 0 (.fresh 0 0 (ledOf w)) } }) :
    codeAny (model prog w) A (.call (.builtin "set.__new__") ⟨[.type "set", a], []⟩) (wants Q₁ E) s := by
  refine codeAny_of_tree ?_
  show wpAny _ A.in1 (do checkBuiltinCall "set.__new__" ⟨[.type "set", a], []⟩; again (.builtin "set.__new__" ⟨[.type "set", a], []⟩)) _ _ s
  refine wpAny_bind (wpAny_of_eq (PySem.F.newCall_set_1 a) (wpAny_pure ⟨plainId_quiet PySem.F.plain_set_new _, codeAny_builtin PySem.F.entry_set_new ?_⟩))
  rw [Around.under_plainId PySem.F.plain_set_new _]
  unfold Builtin.«set.__new__» Builtin.Frozenset.newClass
  have hsub := sub_set_self
  obtain ⟨hp, g, d, tk, os⟩ := s
  dsimp only
  wp_walk
  refine wpAny_askSetting (wpAny_pure ?_)
  dsimp only
  simp only [newObj]
  refine wpAny_bind (wpAny_alloc (wpAny_pure ?_))
  exact wpAny_pure h
set_option maxHeartbeats 3200000 in
theorem call_set_I {l : Addr} {items : Array Value} {is : List Int} {Q : Value → Shared → Prop} (hh : A.handled = none) (hl : s.heap.IsList l items) (hi : IntsAre items.toList is) (hb : is.length + 1 < scanBound)
    (h : ∀ (h' : Heap) (tk : Nat), SetI prog w (ledOf w) h' s.heap.objs.size (is.foldl addI []) → (∀ b o, s.heap.get? b = some o → h'.get? b = some o) → Q (.ref s.heap.objs.size) { s with heap := h', toks := tk }) :
    wpAny (model prog w) A (call (.type "set") [.ref l]) Q E s := by
  obtain ⟨c, tl, hmro⟩ := PySem.F.called_set.mro
  have hmade := PySem.F.called_set.made
  have hsub := PySem.F.called_set.sub
  refine wpAny_call (codeAny_of_tree ?_)
  show wpAny _ _ (callAny (.type "set") _) _ _ _
  refine wpAny_pure ⟨Code.quiet_builtin _ (by decide +kernel), codeAny_builtin PySem.F.entry_type_call ?_⟩
  rw [Around.under_plain (weight_type_call_type "set" [.ref l] []) rfl]
  have h1 := PySem.F.called_set.notType
  have h2 := PySem.F.called_set.canCreate
  have hct := PySem.F.typeCall_set_1 (.ref l)
  repeat (any_goals (first | assumption | wp_step))
  refine codeAny_mono (set_new_I (.ref l) (E := E) (Q₁ := fun obj s₁ => obj = .ref s.heap.objs.size ∧ s₁ = { s with heap := s.heap.push { cls := .type "set", dict := none, data := .set #[] 0 (.fresh 0 0 (ledOf w)) } }) ⟨rfl, rfl⟩) fun r s₁ hr => ?_
  cases r with
  | error e => exact hr
  | ok fl =>
    cases fl with
    | ret obj =>
      obtain ⟨rfl, rfl⟩ := hr
      have hS : (s.heap.push { cls := .type "set", dict := none, data := .set #[] 0 (.fresh 0 0 (ledOf w)) }).get? s.heap.objs.size = some { cls := .type "set", dict := none, data := .set #[] 0 (.fresh 0 0 (ledOf w)) } := Heap.get?_push_size _ rfl
      have hT : Shared.TypeIs { s with heap := s.heap.push { cls := .type "set", dict := none, data := .set #[] 0 (.fresh 0 0 (ledOf w)) } } (.ref s.heap.objs.size) "set" := ⟨_, hS, rfl⟩
      have hli := PySem.F.called_set.init.lookup
      have hbi := PySem.F.called_set.init.bind (.ref s.heap.objs.size)
      repeat (any_goals (first | assumption | wp_step))
      refine codeAny_mono (codeAny_call_builtin (R := wants (fun r s₂ => r = .none ∧ ∃ h' tk, s₂ = { s with heap := h', toks := tk } ∧
          SetI prog w (ledOf w) h' s.heap.objs.size (is.foldl addI []) ∧ (∀ b o, s.heap.get? b = some o → h'.get? b = some o)) E) PySem.F.called_set.init.plain PySem.F.entry_set_init (check_set_init_1 hT ?_)) fun r₂ s₂ hr₂ => ?_
      · obtain ⟨ol, hol, hcl, nl, hdl⟩ := hl
        obtain ⟨ocls, odict, odata, oslots⟩ := ol
        simp only at hcl hdl
        subst hcl; subst hdl
        have hol' : (s.heap.push { cls := .type "set", dict := none, data := .set #[] 0 (.fresh 0 0 (ledOf w)) }).get? l = some { cls := .type "list", dict := odict, data := .seq items nl, slots := oslots } := Heap.get?_push_of_some _ hol
        have hsls := PySem.F.sub_list_set
        have hslf := PySem.F.sub_list_frozenset
        have hne : (Value.type "list" == Value.type "dict") = false := by decide
        have hl1 : (s.heap.push { cls := .type "set", dict := none, data := .set #[] 0 (.fresh 0 0 (ledOf w)) }).IsList l items := ⟨_, hol', rfl, nl, rfl⟩
        unfold Builtin.«set.__init__» noKeywords Builtin.Frozenset.updateFrom
        generalize hPI : pyIter = PI
        wp_walk
        subst hPI
        refine wpAny_pyIter_list hl1 ?_
        refine wpAny_bind (wpAny_runValue ?_)
        have hlS : l < s.heap.objs.size := Heap.lt_size hol
        have hh3 : A.in1.in1.in1.handled = none := by simp [hh]
        have hneI : l ≠ (s.heap.push { cls := .type "set", dict := none, data := .set #[] 0 (.fresh 0 0 (ledOf w)) }).objs.size := by
          rw [Heap.size_push]; exact Nat.ne_of_lt (Nat.lt_succ_of_lt hlS)
        have hSf : s.heap.objs.size ∉ [(s.heap.push { cls := .type "set", dict := none, data := .set #[] 0 (.fresh 0 0 (ledOf w)) }).objs.size, l] := by
          rw [Heap.size_push]; simp only [List.mem_cons, List.mem_singleton, List.not_mem_nil, or_false, not_or]
          exact ⟨Nat.ne_of_lt (Nat.lt_succ_self _), Nat.ne_of_gt hlS⟩
        have hlen : is.length = items.size := by have := IntsAre.length hi; rw [Array.length_toList] at this; exact this.symm
        have hval : ∀ (i : Nat) (v : Value), items[i]? = some v → ∃ k t, is[i]? = some k ∧ v = .int k t := fun i v hv => by
          obtain ⟨t, ht⟩ := IntsAre.int_at hi i v (by rw [Array.getElem?_toList]; exact hv)
          have hlt : i < is.length := by rw [hlen]; exact (Array.getElem?_eq_some_iff.mp hv).1
          refine ⟨is[i], t, List.getElem?_eq_getElem hlt, ?_⟩
          rw [ht, List.getD_eq_getElem?_getD, List.getElem?_eq_getElem hlt]; rfl
        refine update_loop_I (b := ledOf w) ((Walks.list hh3 _ l hneI items).toS) s.heap.objs.size
          hSf is hlen hval (by rw [← hlen]; exact hb) (items.size - 0) 0 _ rfl (Nat.zero_le _)
          ⟨⟨_, Heap.get?_push_size _ rfl, rfl, rfl⟩, (hl1.push _)⟩ ?hS0 ?hR
        case hS0 =>
          have hget : ((s.heap.push { cls := .type "set", dict := none, data := .set #[] 0 (.fresh 0 0 (ledOf w)) }).push { cls := .type "list_iterator", data := .fields #[.ref l, .int 0 0] }).get? s.heap.objs.size
              = some { cls := .type "set", dict := none, data := .set #[] 0 (.fresh 0 0 (ledOf w)) } := Heap.get?_push_of_some _ hS
          exact ⟨_, _, _, _, hget, ⟨rfl, rfl, rfl⟩, rfl, fun e he => (nomatch he), .nil, by show 0 < scanBound; unfold scanBound; omega, rfl, ⟨rfl, .nil, rfl⟩⟩
        case hR =>
          intro s' hm hS'
          obtain ⟨h', g', d', tk', os'⟩ := s'
          have eg : g' = s.gens := hm.gens
          have ed : d' = s.drawn := hm.drawn
          have eo : os' = s.os := hm.os
          subst eg; subst ed; subst eo
          show wpAny _ _ _ _ _ _
          refine wpAny_pure ?_
          show wpAny _ _ (ret Value.none) _ _ _
          refine wpAny_pure ⟨rfl, h', tk', rfl, hS', fun b o e => ?_⟩
          have hb0 := Heap.lt_size e
          have hb1 : b ≠ s.heap.objs.size := Nat.ne_of_lt hb0
          have hb2 : b ≠ (s.heap.push { cls := .type "set", dict := none, data := .set #[] 0 (.fresh 0 0 (ledOf w)) }).objs.size := by
            rw [Heap.size_push]; exact Nat.ne_of_lt (Nat.lt_succ_of_lt hb0)
          exact hm.heap b o (by simp only [List.mem_cons, List.mem_singleton, List.not_mem_nil, or_false, not_or]; exact ⟨hb1, hb2⟩) (Heap.get?_push_of_some _ (Heap.get?_push_of_some _ e))
      · cases r₂ with
        | error e => exact hr₂
        | ok fl₂ =>
          cases fl₂ with
          | ret r =>
            obtain ⟨rfl, h', tk, rfl, hS', hk'⟩ := hr₂
            repeat (any_goals (first | assumption | wp_step))
            exact h _ _ hS' hk'
          | next => exact hr₂
          | brk => exact hr₂
          | cont => exact hr₂
    | next => exact hr
    | brk => exact hr
    | cont => exact hr
end
end

section
open PySem PySem.Calls PyProof.Rows PySem.W
set_option backward.match.sparseCases false
set_option maxRecDepth 100000
set_option linter.unusedVariables false
theorem slot_setit_next : Slot "set_iterator" "__next__" "set_iterator.__next__" :=
  .of (owner := "set_iterator") (n := "__next__") (by rw [typeLookup_type, builtinLookup_eq_fast]; kernel_rfl) (by decide +kernel) (by decide +kernel) (by decide +kernel)
    (by first | exact .inl (by decide +kernel) | exact .inr (by decide +kernel)) (by rw [isSubtype_type]; kernel_rfl)
theorem slot_setit_iter : Slot "set_iterator" "__iter__" "set_iterator.__iter__" :=
  .of (owner := "set_iterator") (n := "__iter__") (by rw [typeLookup_type, builtinLookup_eq_fast]; kernel_rfl) (by decide +kernel) (by decide +kernel) (by decide +kernel)
    (by first | exact .inl (by decide +kernel) | exact .inr (by decide +kernel)) (by rw [isSubtype_type]; kernel_rfl)
theorem entry_setit_next : entryFor table "set_iterator.__next__" = some Builtin.«set_iterator.__next__» := entryFor_of_tree (by kernel_rfl)
theorem entry_setit_iter : entryFor table "set_iterator.__iter__" = some Builtin.«dict_keyiterator.__iter__» :=
  entryFor_alias (id' := "dict_keyiterator.__iter__") (by kernel_rfl) rfl (by decide +kernel) (by kernel_rfl)
theorem entry_set_iter : entryFor table "set.__iter__" = some Builtin.«frozenset.__iter__» :=
  entryFor_alias (id' := "frozenset.__iter__") (by kernel_rfl) rfl (by decide +kernel) (by kernel_rfl)
theorem args_setit_next (a : Value) : argsOk "set_iterator.__next__" ⟨[a], []⟩ := by unfold argsOk; kernel_rfl
theorem args_setit_iter (a : Value) : argsOk "set_iterator.__iter__" ⟨[a], []⟩ := by unfold argsOk; kernel_rfl
inductive ItAt (h : Heap) (I : Addr) (first : Value) (i : Nat) (S : Addr) (n ep : Nat) : Prop
  | mk (o : Obj) (h1 : h.get? I = some o) (h2 : o.cls = .type "set_iterator") (h3 : o.data = .fields #[first, .int i 0, .ref S, .int n 0, .int ep 0])
theorem ItAt.at {h h' : Heap} {I : Addr} {first : Value} {i : Nat} {S : Addr} {n ep : Nat} (x : ItAt h I first i S n ep) (k : ∀ o, h.get? I = some o → h'.get? I = some o) : ItAt h' I first i S n ep := by
  obtain ⟨o, h1, h2, h3⟩ := x; exact ⟨o, k _ h1, h2, h3⟩
section
variable {prog : Program} {w : World} {A : Around} {E : Value → Shared → Prop} {s : Shared} {I S : Addr} {first : Value} {i n ep : Nat}
theorem ItAt.typeIs (x : ItAt s.heap I first i S n ep) : s.TypeIs (.ref I) "set_iterator" := by
  obtain ⟨o, h1, h2, _⟩ := x; exact ⟨o, h1, h2⟩
theorem ItAt.set {h : Heap} (x : ItAt h I first i S n ep) (k : Nat) (v : Value) (hk : k < 5) :
    ∃ o, (h.update I (Obj.mapFields (·.setIfInBounds k v))).get? I = some o ∧ o.cls = .type "set_iterator" ∧ o.data = .fields (#[first, .int i 0, .ref S, .int n 0, .int ep 0].setIfInBounds k v) := by
  obtain ⟨o, ho, hc, hd⟩ := x
  exact ⟨_, Heap.get?_update_self _ ho (Obj.isFreed_of_fields (Obj.data_mapFields hd _)), (Obj.cls_mapFields ..).trans hc, by rw [Obj.data_mapFields hd]⟩
theorem setit_next {Q : Option Value → Shared → Prop} (hit : ItAt s.heap I first i S n ep)
    (h : wpAny (model prog w) A.in1 (Builtin.«set_iterator.__next__» ⟨[.ref I], []⟩) (fun fin s' => ∃ x, fin = .done (.ret x) ∧ Q (some x) s')
      (fun e s' => s'.TypeIs e "StopIteration" ∧ Q none s') s) : wpAny (model prog w) A (pyNext (.ref I)) Q E s := by
  unfold pyNext
  refine wpAny_bind (wpAny_attempt (wpAny_callSpecial?_slot (name := Str.ofString "__next__") hit.typeIs slot_setit_next
    (wpAny_call_entry slot_setit_next hit.typeIs entry_setit_next (wpAny_mono h (fun fin s' hq => ?_) fun e s' he => ?_) (args_setit_next _))))
  · obtain ⟨x, hx, hq⟩ := hq
    exact ⟨x, hx, wpAny_pure hq⟩
  · obtain ⟨ht, hq⟩ := he
    exact wpAny_bind (wpAny_isInstance (T := "StopIteration") (b := true) ht isSubtype_stop (wpAny_pure hq))
theorem stop_throw {A : Around} {Q : Fin → Shared → Prop} (hh : A.handled = none) (h : ∀ s' e, Heap.ExtBut s.heap.objs.size s.heap s'.heap → s' = { s with heap := s'.heap } → s'.TypeIs e "StopIteration" → E e s') :
    wpAny (model prog w) A (do raiseNew (← newExc (.type "StopIteration") [])) Q E s := by
  show wpAny _ _ (newExc (.type "StopIteration") [] >>= _) _ _ _
  refine wpAny_bind ?_
  simp only [newExc, newTuple]
  refine wpAny_bind (wpAny_newObj_type ?_ (by size_fits))
  refine wpAny_bind (m := firstArgMember _ _) (wpAny_of_eq (a := Value.none) (by first | rfl | (simp only [firstArgMember]; rfl)) ?_)
  refine wpAny_newObj_type ?_ (by size_fits)
  simp only [raiseNew]
  refine wpAny_bind (wpAny_handled ?_)
  rw [hh]
  refine wpAny_bind (wpAny_pure (wpAny_throw ?_))
  exact h _ _ (fun b o _ e => Heap.get?_push_of_some _ (Heap.get?_push_of_some _ e)) rfl ⟨_, Heap.get?_push_size _ rfl, rfl⟩
end
end

section
open PySem PySem.Calls PyProof.Rows PySem.W
set_option backward.match.sparseCases false
set_option maxRecDepth 100000
set_option linter.unusedVariables false
section
variable {prog : Program} {w : World}
theorem walk_slots {A : Around} (hh : A.handled = none) {I S : Addr} (hne : S ≠ I) {o : Obj} {es : Array (Int × Value)} {ep : Nat} {t : SetTable} (hd : o.data = .set es ep t) (hf : t.fits es.size = true) {sl : Nat → Nat} {ws : List Value} (hn : ws.length = es.size)
    (item : ∀ (A : Around) (s : Shared) (i : Nat) (x : Value) (Q : Option (Value × Nat) → Shared → Prop) (E : Value → Shared → Prop), s.heap.get? S = some o → ws[i]? = some x → Q (some (x, sl (i + 1))) s → wpAny (model prog w) A (setNext S (sl i) i ep) Q E s)
    (done : ∀ (A : Around) (s : Shared) (Q : Option (Value × Nat) → Shared → Prop) (E : Value → Shared → Prop), s.heap.get? S = some o → Q none s → wpAny (model prog w) A (setNext S (sl es.size) es.size ep) Q E s) :
    Walks prog w A I [I, S] [I] es.size (fun i v => ws[i]? = some v) (fun i h => ItAt h I (.int (sl i) 0) i S es.size ep ∧ h.get? S = some o) where
  sub := fun b hb => by simp at hb; simp [hb]
  frame := fun _ _ _ st hk => ⟨st.1.at fun o e => hk I (by simp) o e, hk S (by simp) _ st.2⟩
  item := fun i s Q E hi st hQ => by
    refine setit_next st.1 ?_
    have st1 := st.1
    obtain ⟨o', ho', hc', hd'⟩ := st.1
    show wpAny _ _ (fieldsOf (.ref I) >>= _) _ _ s
    refine wpAny_bind (wpAny_fieldsOf ho' hd' ?_)
    show wpAny _ _ (setEntries S >>= _) _ _ s
    refine wpAny_bind (wpAny_setEntries_of st.2 hd hf ?_)
    show wpAny _ _ (if ((es.size : Int) != (es.size : Int)) = true then _ else _) _ _ s
    rw [if_neg (by simp)]
    have hx : ws[i]? = some (ws[i]'(hn ▸ hi)) := List.getElem?_eq_getElem _
    generalize ws[i]'(hn ▸ hi) = x at hx
    show wpAny _ _ (setNext S ((sl i : Nat) : Int).toNat (i : Int).toNat (ep : Int).toNat >>= _) _ _ s
    simp only [Int.toNat_natCast]
    refine wpAny_bind (item _ s i x _ _ st.2 hx ?_)
    show wpAny _ _ (setField (.ref I) 0 (rawInt (sl (i + 1))) >>= _) _ _ s
    refine wpAny_bind (wpAny_setField ho' hd' (by simp) ?_)
    obtain ⟨o2, g1, g2, g3⟩ := st1.set 0 (rawInt (sl (i + 1))) (by decide)
    refine wpAny_bind (wpAny_setField (s := { s with heap := _ }) g1 g3 (by simp) (wpAny_pure ?_))
    refine ⟨x, rfl, hQ x _ s.toks hx ⟨⟨_, Heap.get?_update_self _ g1 (Obj.isFreed_of_fields (Obj.data_mapFields g3 _)), (Obj.cls_mapFields ..).trans g2, by rw [Obj.data_mapFields g3]; simp [rawInt]⟩, ?_⟩ fun b o hb e => ?_⟩
    · exact (Heap.get?_update_other _ _ (Ne.symm hne)).trans ((Heap.get?_update_other _ _ (Ne.symm hne)).trans st.2)
    · have hb : I ≠ b := fun z => hb (by simp [z])
      exact (Heap.get?_update_other _ _ hb).trans ((Heap.get?_update_other _ _ hb).trans e)
  done := fun s Q E st hQ => by
    refine setit_next st.1 ?_
    have st1 := st.1
    obtain ⟨o', ho', hc', hd'⟩ := st.1
    show wpAny _ _ (fieldsOf (.ref I) >>= _) _ _ s
    refine wpAny_bind (wpAny_fieldsOf ho' hd' ?_)
    show wpAny _ _ (setEntries S >>= _) _ _ s
    refine wpAny_bind (wpAny_setEntries_of st.2 hd hf ?_)
    show wpAny _ _ (if ((es.size : Int) != (es.size : Int)) = true then _ else _) _ _ s
    rw [if_neg (by simp)]
    show wpAny _ _ (setNext S ((sl es.size : Nat) : Int).toNat (es.size : Int).toNat (ep : Int).toNat >>= _) _ _ s
    simp only [Int.toNat_natCast]
    refine wpAny_bind (done _ s _ _ st.2 ?_)
    show wpAny _ _ (setField (.ref I) 2 .none >>= _) _ _ s
    refine wpAny_bind (wpAny_setField ho' hd' (by simp) ?_)
    refine stop_throw hh fun s' e hx hs' ht => ?_
    rw [hs'] at ht ⊢
    refine ⟨ht, hQ s'.heap s.toks fun b o hb q => ?_⟩
    have hb' : I ≠ b := fun z => hb (by simp [z])
    have hlt := Heap.lt_size q
    exact hx b o (by show b ≠ (s.heap.update I _).objs.size; rw [Heap.size_after_update]; exact Nat.ne_of_lt hlt) ((Heap.get?_update_other _ _ hb').trans q)
  self := fun i s Q E st hQ => by
    refine wpAny_pyIter_slot st.1.typeIs slot_setit_iter (wpAny_call_entry slot_setit_iter st.1.typeIs entry_setit_iter ?_ (args_setit_iter _))
    show wpAny _ _ (ret (.ref I)) _ _ s
    exact wpAny_pure ⟨_, rfl, "set_iterator", _, st.1.typeIs, slot_setit_next.lookup, hQ⟩
end
end

section
open PySem PySem.Calls PyProof.Rows PySem.W
set_option backward.match.sparseCases false
set_option maxRecDepth 100000
set_option linter.unusedVariables false
theorem eraseIdx_perm {α : Type} : ∀ {l : List α} {i : Nat} {x : α}, l[i]? = some x → (x :: l.eraseIdx i).Perm l
  | [], i, x, h => by simp at h
  | a :: l, 0, x, h => by obtain rfl := Option.some.inj h; exact .refl _
  | a :: l, i + 1, x, h => by
    have := eraseIdx_perm (l := l) (i := i) (x := x) h
    show (x :: a :: l.eraseIdx i).Perm _
    exact (List.Perm.swap a x _).trans (this.cons a)
theorem pick_go {α : Type} (f : Nat → Nat) : ∀ (fuel k : Nat) (left : List α) (out : Array α), left.length = fuel → (pickOrder.go f fuel k left out).toList.Perm (out.toList ++ left)
  | 0, k, left, out, h => by
    have : left = [] := List.length_eq_zero_iff.mp h
    subst this
    rw [List.append_nil]; exact .refl _
  | fuel + 1, k, left, out, h => by
    unfold pickOrder.go
    have hi : f k % left.length < left.length := Nat.mod_lt _ (by omega)
    have hx := List.getElem?_eq_getElem hi
    generalize left[f k % left.length] = x at hx
    rw [hx]
    dsimp only
    refine (pick_go f fuel (k + 1) _ _ (by rw [List.length_eraseIdx_of_lt hi, h]; rfl)).trans ?_
    rw [Array.toList_push, List.append_assoc]
    exact (eraseIdx_perm hx).append_left _
theorem pick_perm {α : Type} (f : Nat → Nat) (xs : Array α) : (pickOrder f xs).toList.Perm xs.toList := by
  have := pick_go f xs.size 0 xs.toList #[] (Array.length_toList ..)
  exact this
section
variable {M : Model} {prog : Program} {w : World} {A : Around} {E : Value → Shared → Prop} {s : Shared}
theorem any_choose {src : Source} {n : Nat} {Q : Nat → Shared → Prop} (hn : n ≠ 0) (h : ∀ i d, i < n → Q i { s with drawn := d }) : wpAny M A (choose src n) Q E s :=
  fun Γ p hΓ => ⟨hn, h _ _ (Nat.mod_lt _ (Nat.pos_of_ne_zero hn))⟩
theorem any_order {α : Type} : ∀ (n : Nat) (xs : List α) (s : Shared) (Q : List α → Shared → Prop), xs.length = n → (∀ l d, l.Perm xs → Q l { s with drawn := d }) → wpAny M A (drawOrder n xs) Q E s
  | 0, xs, s, Q, hn, h => by
    have : xs = [] := List.length_eq_zero_iff.mp hn
    subst this
    exact wpAny_pure (h [] s.drawn (.refl _))
  | n + 1, [], s, Q, hn, h => nomatch hn
  | n + 1, x :: r, s, Q, hn, h => by
    show wpAny _ _ (choose .order (x :: r).length >>= _) _ _ _
    refine wpAny_bind (any_choose (by simp) fun i d hi => ?_)
    have hx := List.getElem?_eq_getElem hi
    generalize (x :: r)[i] = y at hx
    rw [hx]
    show wpAny _ _ (drawOrder n ((x :: r).eraseIdx i) >>= _) _ _ _
    refine wpAny_bind (any_order n _ _ _ (by rw [List.length_eraseIdx_of_lt hi, hn]; rfl) fun l d' hl => wpAny_pure (h (y :: l) d' ((hl.cons y).trans (eraseIdx_perm hx))))
theorem by_text {Q : Bool → Shared → Prop} (h : Q (!ledOf w) s) : wpAny (model prog w) A setsByText Q E s := by
  unfold setsByText
  refine wpAny_bind (wpAny_askSetting (wpAny_pure ?_))
  have : (!ledOf w) = w.params.followText "set-order" := Bool.not_not _
  rw [this] at h
  exact h
theorem set_walk_text {S : Addr} {o : Obj} {es : Array (Int × Value)} {ep : Nat} {t : SetTable} {Q : Array (Int × Value) → Shared → Prop} (ho : s.heap.get? S = some o) (hd : o.data = .set es ep t) (hf : t.fits es.size = true) (hb : ledOf w = false)
    (h : Q (pickOrder (w.params.setOrder S ep) es) s) : wpAny (model prog w) A (setWalk S) Q E s := by
  unfold setWalk
  refine wpAny_bind (wpAny_setState_of ho hd hf ?_)
  dsimp only
  refine wpAny_bind (by_text ?_)
  rw [hb]
  show wpAny _ _ (ask >>= _) _ _ _
  exact wpAny_bind (wpAny_askSetting (wpAny_pure h))
theorem next_text {S : Addr} {o : Obj} {es : Array (Int × Value)} {ep : Nat} {t : SetTable} (ho : s.heap.get? S = some o) (hd : o.data = .set es ep t) (hf : t.fits es.size = true) (hb : ledOf w = false) {sl i : Nat} {Q : Option (Value × Nat) → Shared → Prop}
    (h : Q ((((pickOrder (w.params.setOrder S ep) es).toList.map (·.2))[i]?).map fun x => (x, sl)) s) : wpAny (model prog w) A (setNext S sl i ep) Q E s := by
  unfold setNext
  refine wpAny_bind (wpAny_setState_of ho hd hf ?_)
  dsimp only
  refine wpAny_bind (by_text ?_)
  rw [hb]
  show wpAny _ _ (if (ep != ep) = true then _ else _) _ _ _
  rw [if_neg (by simp)]
  show wpAny _ _ (setWalk S >>= _) _ _ _
  refine wpAny_bind (set_walk_text ho hd hf hb (wpAny_pure ?_))
  rw [List.getElem?_map, Option.map_map, Array.getElem?_toList] at h
  exact h
noncomputable def slAt (place : Array Nat) : Nat → Nat
  | 0 => 0
  | i + 1 => place.getD i 0 + 1
theorem slAt_below {place : Array Nat} (up : Up place) : ∀ i, i ≤ place.size → SetTable.below place (slAt place i) = i
  | 0, h => below_at up h (fun i a q => absurd q (Nat.not_lt_zero _)) fun i a _ _ => Nat.zero_le _
  | i + 1, h => by
    have hp : place[i]? = some (place[i]'h) := Array.getElem?_eq_getElem h
    have e : slAt place (i + 1) = place[i]'h + 1 := by
      show place.getD i 0 + 1 = _
      rw [Array.getD_eq_getD_getElem?, hp]; rfl
    rw [e]
    exact below_at up h (fun j a hj ha => Nat.lt_succ_of_le (up.le ha hp (Nat.le_of_lt_succ hj))) fun j a hj ha => up.lt hp ha hj
theorem next_table {S : Addr} {o : Obj} {es : Array (Int × Value)} {ep : Nat} {t : SetTable} (ho : s.heap.get? S = some o) (hd : o.data = .set es ep t) (hf : t.fits es.size = true) (ht : TabI true t) (hb : ledOf w = true)
    (hpl : (!t.plain && decide (es.size > 1)) = false) {i : Nat} (hi : i ≤ es.size) {Q : Option (Value × Nat) → Shared → Prop} (h : Q (((es.toList.map (·.2))[i]?).map fun x => (x, slAt t.place (i + 1))) s) : wpAny (model prog w) A (setNext S (slAt t.place i) i ep) Q E s := by
  have hz : t.place.size = es.size := by
    have := (Bool.and_eq_true_iff.mp hf).1
    exact eq_of_beq this
  unfold setNext
  refine wpAny_bind (wpAny_setState_of ho hd hf ?_)
  dsimp only
  refine wpAny_bind (by_text ?_)
  rw [hb]
  show wpAny _ _ (if (!t.plain && decide (es.size > 1)) = true then _ else _) _ _ _
  rw [hpl, if_neg Bool.false_ne_true]
  show wpAny _ _ ((if (!t.led && !es.isEmpty) = true then _ else _) >>= _) _ _ _
  rw [ht.led, if_neg (by simp)]
  refine wpAny_bind (wpAny_pure ?_)
  rw [slAt_below ht.up i (hz ▸ hi)]
  rw [List.getElem?_map, Array.getElem?_toList] at h
  rcases Nat.lt_or_ge i es.size with q | q
  · rw [Array.getElem?_eq_getElem q] at h ⊢
    have hp : t.place[i]? = some (t.place[i]'(hz ▸ q)) := Array.getElem?_eq_getElem _
    have e : slAt t.place (i + 1) = t.place[i]'(hz ▸ q) + 1 := by
      show t.place.getD i 0 + 1 = _
      rw [Array.getD_eq_getD_getElem?, hp]; rfl
    rw [hp]
    rw [e] at h
    exact wpAny_pure h
  · rw [Array.getElem?_eq_none q] at h ⊢
    exact wpAny_pure h
end
end

section
open PySem PySem.Calls PyProof.Rows PySem.W
set_option backward.match.sparseCases false
set_option maxRecDepth 100000
set_option linter.unusedVariables false
section
variable {prog : Program} {w : World}
theorem walk_drawn {A : Around} (hh : A.handled = none) {I S T : Addr} (hne : S ≠ I) (hne2 : T ≠ I) {o : Obj} {es : Array (Int × Value)} {ep : Nat} {t : SetTable} (hd : o.data = .set es ep t) (hf : t.fits es.size = true) {ord : List Nat} (hord : ord.Perm (List.range es.size)) :
    Walks prog w A I [I, S, T] [I] es.size (fun i v => (ord.map fun k => ((es.toList.map (·.2))[k]?).getD .none)[i]? = some v) (fun i h => ItAt h I (.ref T) i S es.size ep ∧ h.get? S = some o ∧ h.IsTuple T (ord.map fun (k : Nat) => rawInt k).toArray) where
  sub := fun b hb => by simp at hb; simp [hb]
  frame := fun _ _ _ st hk => ⟨st.1.at fun o e => hk I (by simp) o e, hk S (by simp) _ st.2.1, by obtain ⟨o, ho, r⟩ := st.2.2; exact ⟨o, hk T (by simp) _ ho, r⟩⟩
  item := fun i s Q E hi st hQ => by
    refine setit_next st.1 ?_
    have st1 := st.1
    obtain ⟨o', ho', hc', hd'⟩ := st.1
    obtain ⟨oT, hoT, hcT, nT, hdT⟩ := id st.2.2
    show wpAny _ _ (fieldsOf (.ref I) >>= _) _ _ s
    refine wpAny_bind (wpAny_fieldsOf ho' hd' ?_)
    show wpAny _ _ (setEntries S >>= _) _ _ s
    refine wpAny_bind (wpAny_setEntries_of st.2.1 hd hf ?_)
    show wpAny _ _ (if ((es.size : Int) != (es.size : Int)) = true then _ else _) _ _ s
    rw [if_neg (by simp)]
    have hlen : ord.length = es.size := by rw [hord.length_eq, List.length_range]
    have hk : ord[i]? = some (ord[i]'(hlen ▸ hi)) := List.getElem?_eq_getElem _
    generalize ord[i]'(hlen ▸ hi) = k at hk
    have hkn : k < es.size := List.mem_range.mp (hord.mem_iff.mp (List.mem_of_getElem? hk))
    have hx : es[k]? = some es[k] := Array.getElem?_eq_getElem hkn
    have hv : (ord.map fun k => ((es.toList.map (·.2))[k]?).getD .none)[i]? = some es[k].2 := by
      rw [List.getElem?_map, hk]
      show some (((es.toList.map (·.2))[k]?).getD .none) = _
      rw [List.getElem?_map, Array.getElem?_toList, hx]; rfl
    show wpAny _ _ (seqItems? (.ref T) >>= _) _ _ s
    refine wpAny_bind (wpAny_seqItems hoT hdT ?_)
    have hp : (ord.map fun (k : Nat) => rawInt k).toArray[i]? = some (.int k 0) := by
      rw [List.getElem?_toArray, List.getElem?_map, hk]; rfl
    simp only [Int.toNat_natCast]
    rw [hp]
    show wpAny _ _ (setNextDrawn S (k : Int).toNat (ep : Int).toNat >>= _) _ _ s
    simp only [Int.toNat_natCast]
    unfold setNextDrawn
    refine wpAny_bind (wpAny_bind (wpAny_setState_of st.2.1 hd hf ?_))
    show wpAny _ _ (if (ep != ep) = true then _ else _) _ _ s
    rw [if_neg (by simp), hx]
    refine wpAny_pure ?_
    show wpAny _ _ (setField (.ref I) 1 (rawInt (i + 1)) >>= _) _ _ s
    refine wpAny_bind (wpAny_setField ho' hd' (by simp) (wpAny_pure ⟨_, rfl, hQ _ _ s.toks hv ⟨?_, ?_, ?_⟩ fun b o hb e => ?_⟩))
    · obtain ⟨o2, g1, g2, g3⟩ := st1.set 1 (rawInt (i + 1)) (by decide)
      exact ⟨o2, g1, g2, g3.trans (by simp [rawInt])⟩
    · exact (Heap.get?_update_other _ _ (Ne.symm hne)).trans st.2.1
    · exact ⟨oT, (Heap.get?_update_other _ _ (Ne.symm hne2)).trans hoT, hcT, nT, hdT⟩
    · exact (Heap.get?_update_other _ _ (fun z : I = b => hb (by simp [z]))).trans e
  done := fun s Q E st hQ => by
    refine setit_next st.1 ?_
    have st1 := st.1
    obtain ⟨o', ho', hc', hd'⟩ := st.1
    obtain ⟨oT, hoT, hcT, nT, hdT⟩ := id st.2.2
    show wpAny _ _ (fieldsOf (.ref I) >>= _) _ _ s
    refine wpAny_bind (wpAny_fieldsOf ho' hd' ?_)
    show wpAny _ _ (setEntries S >>= _) _ _ s
    refine wpAny_bind (wpAny_setEntries_of st.2.1 hd hf ?_)
    show wpAny _ _ (if ((es.size : Int) != (es.size : Int)) = true then _ else _) _ _ s
    rw [if_neg (by simp)]
    have hlen : ord.length = es.size := by rw [hord.length_eq, List.length_range]
    show wpAny _ _ (seqItems? (.ref T) >>= _) _ _ s
    refine wpAny_bind (wpAny_seqItems hoT hdT ?_)
    have hp : (ord.map fun (k : Nat) => rawInt k).toArray[es.size]? = none := by
      rw [List.getElem?_toArray, List.getElem?_map, List.getElem?_eq_none (Nat.le_of_eq hlen)]; rfl
    simp only [Int.toNat_natCast]
    rw [hp]
    show wpAny _ _ (setField (.ref I) 0 (rawInt 0) >>= _) _ _ s
    refine wpAny_bind (wpAny_setField ho' hd' (by simp) ?_)
    obtain ⟨o2, g1, g2, g3⟩ := st1.set 0 (rawInt 0) (by decide)
    show wpAny _ _ (setField (.ref I) 2 .none >>= _) _ _ _
    refine wpAny_bind (wpAny_setField (s := { s with heap := _ }) g1 g3 (by simp) ?_)
    refine stop_throw hh fun s' e hx hs' ht => ?_
    rw [hs'] at ht ⊢
    refine ⟨ht, hQ s'.heap s.toks fun b o hb q => ?_⟩
    have hb' : I ≠ b := fun z => hb (by simp [z])
    have hlt := Heap.lt_size q
    refine hx b o ?_ ((Heap.get?_update_other _ _ hb').trans ((Heap.get?_update_other _ _ hb').trans q))
    show b ≠ ((s.heap.update I _).update I _).objs.size
    rw [Heap.size_after_update, Heap.size_after_update]; exact Nat.ne_of_lt hlt
  self := fun i s Q E st hQ => by
    refine wpAny_pyIter_slot st.1.typeIs slot_setit_iter (wpAny_call_entry slot_setit_iter st.1.typeIs entry_setit_iter ?_ (args_setit_iter _))
    show wpAny _ _ (ret (.ref I)) _ _ s
    exact wpAny_pure ⟨_, rfl, "set_iterator", _, st.1.typeIs, slot_setit_next.lookup, hQ⟩
inductive SetWalk (prog : Program) (w : World) (s : Shared) (S : Addr) (σ : List Int) (v : Value) (s' : Shared) : Prop
  | mk (I : Addr) (fp wr : List Addr) (ws : List Value) (St : Nat → Heap → Prop) (h' : Heap) (d : PySem.Drawn) (h1 : v = .ref I) (h2 : s' = { s with heap := h', drawn := d }) (h3 : ∀ A : Around, A.handled = none → Walks prog w A I fp wr ws.length (fun i v => ws[i]? = some v) St)
    (h4 : St 0 h') (h5 : ∀ b o, s.heap.get? b = some o → h'.get? b = some o) (h6 : s.heap.objs.size ≤ h'.objs.size) (h7 : ∀ b ∈ wr, s.heap.objs.size ≤ b) (h8 : ∀ b ∈ fp, b = S ∨ s.heap.objs.size ≤ b) (h9 : (ws.map ival).Perm σ) (h10 : ∀ x ∈ ws, ∃ t, x = .int (ival x) t)
theorem map_range {α : Type} (l : List α) (x : α) : (List.range l.length).map (fun k => (l[k]?).getD x) = l := by
  refine List.ext_getElem? fun i => ?_
  rw [List.getElem?_map]
  rcases Nat.lt_or_ge i l.length with h | h
  · rw [List.getElem?_range h]
    show some ((l[i]?).getD x) = _
    rw [List.getElem?_eq_getElem h]; rfl
  · rw [List.getElem?_eq_none (by rw [List.length_range]; exact h), List.getElem?_eq_none h]; rfl
theorem iter_set {A : Around} {E : Value → Shared → Prop} {s : Shared} {S : Addr} {σ : List Int} {Q : Value → Shared → Prop} (hS : SetI prog w (ledOf w) s.heap S σ) (h : ∀ v s', SetWalk prog w s S σ v s' → Q v s') :
    wpAny (model prog w) A (pyIter (.ref S)) Q E s := by
  obtain ⟨o, es, ep, t, ho, hex, hd, hel, hp, hb, hf, ht⟩ := hS
  have hT : s.TypeIs (.ref S) "set" := ⟨o, ho, hex.1⟩
  have hSlt := Heap.lt_size ho
  have hsz : es.size ≤ sizeLine := fits_of_scanBound hb
  refine wpAny_pyIter_slot hT PySem.F.slot_set_iter (wpAny_call_entry PySem.F.slot_set_iter hT entry_set_iter ?_ (PySem.F.args_set_iter_1 _))
  show wpAny _ _ (Builtin.Frozenset.sizeOf S >>= _) _ _ s
  unfold Builtin.Frozenset.sizeOf
  refine wpAny_bind (wpAny_bind (wpAny_setEntries_of ho hd hf (wpAny_pure ?_)))
  show wpAny _ _ (setDrawn S >>= _) _ _ s
  unfold setDrawn
  refine wpAny_bind (wpAny_bind (wpAny_setState_of ho hd hf ?_))
  dsimp only
  refine wpAny_bind (by_text (wpAny_pure ?_))
  have hints : ∀ x ∈ es.toList.map (·.2), ∃ t, x = .int (ival x) t := fun x hx => by
    obtain ⟨e, he, rfl⟩ := List.mem_map.mp hx
    exact el_int hel he
  have perm : ((es.toList.map (·.2)).map ival).Perm σ := by rw [List.map_map]; exact hp
  have fin : ∀ (I : Addr) (fp wr : List Addr) (ws : List Value) (St : Nat → Heap → Prop) (h' : Heap) (d : PySem.Drawn), (∀ A : Around, A.handled = none → Walks prog w A I fp wr ws.length (fun i v => ws[i]? = some v) St) → St 0 h' → (∀ b o, s.heap.get? b = some o → h'.get? b = some o) →
      s.heap.objs.size ≤ h'.objs.size → (∀ b ∈ wr, s.heap.objs.size ≤ b) → (∀ b ∈ fp, b = S ∨ s.heap.objs.size ≤ b) → ws.Perm (es.toList.map (·.2)) → Q (.ref I) { s with heap := h', drawn := d } := fun I fp wr ws St h' d a1 a2 a3 a4 a5 a6 a7 =>
    h _ _ ⟨I, fp, wr, ws, St, h', d, rfl, rfl, a1, a2, a3, a4, a5, a6, (a7.map _).trans perm, fun x hx => hints x (a7.mem_iff.mp hx)⟩
  have made : ∀ (first : Value) (h₁ : Heap) (d : PySem.Drawn), (∀ (o' : Obj), o' = { cls := .type "set_iterator", data := .fields #[first, .int (0 : Nat) 0, .ref S, .int es.size 0, .int ep 0] } → Q (.ref h₁.objs.size) { s with heap := h₁.push o', drawn := d }) → h₁.get? S = some o →
      wpAny (model prog w) A.in1 (do ret (← newFields "set_iterator" [first, rawInt 0, .ref S, rawInt es.size, rawInt (← setEpoch S)])) (fun fin s' => ∃ v, fin = .done (.ret v) ∧ ∃ T r, s'.TypeIs v T ∧ typeLookup (.type T) (Str.ofString "__next__") = pure (some r) ∧ Q v s') E { s with heap := h₁, drawn := d } := fun first h₁ d k ho1 => by
    refine wpAny_bind (wpAny_setEpoch_of (s := { s with heap := h₁, drawn := d }) ho1 hd hf ?_)
    exact wpAny_bind (wpAny_newObj_type (wpAny_pure ⟨_, rfl, "set_iterator", _, ⟨_, Heap.get?_push_size _ rfl, rfl⟩, slot_setit_next.lookup, k _ rfl⟩))
  have ne : S ≠ s.heap.objs.size := Nat.ne_of_lt hSlt
  have slots : ∀ (sl : Nat → Nat) (ws : List Value), sl 0 = 0 → ws.length = es.size → ws.Perm (es.toList.map (·.2)) →
      (∀ (A : Around) (s : Shared) (i : Nat) (Q : Option (Value × Nat) → Shared → Prop) (E : Value → Shared → Prop), s.heap.get? S = some o → i ≤ es.size → Q ((ws[i]?).map fun x => (x, sl (i + 1))) s → wpAny (model prog w) A (setNext S (sl i) i ep) Q E s) →
      wpAny (model prog w) A.in1 (do ret (← newFields "set_iterator" [rawInt 0, rawInt 0, .ref S, rawInt es.size, rawInt (← setEpoch S)])) (fun fin s' => ∃ v, fin = .done (.ret v) ∧ ∃ T r, s'.TypeIs v T ∧ typeLookup (.type T) (Str.ofString "__next__") = pure (some r) ∧ Q v s') E s := fun sl ws h0 hn hpm hnx => by
    refine made (rawInt 0) s.heap s.drawn (fun o' ho' => ?_) ho
    refine fin s.heap.objs.size [s.heap.objs.size, S] [s.heap.objs.size] ws (fun i h => ItAt h s.heap.objs.size (.int (sl i) 0) i S es.size ep ∧ h.get? S = some o) _ _ (fun A hA => ?_) ⟨⟨o', Heap.get?_push_size _ (ho' ▸ rfl), ho' ▸ rfl, ?_⟩, Heap.get?_push_of_some _ ho⟩ (fun b o q => Heap.get?_push_of_some _ q) (by simp) (fun b hb => by rw [List.mem_singleton.mp hb]; exact Nat.le_refl _) (fun b hb => ?_) hpm
    · rw [hn]
      refine walk_slots hA ne hd hf hn (fun A s i x Q E hs hx hq => ?_) fun A s Q E hs hq => ?_
      · have hi : i ≤ es.size := Nat.le_of_lt (hn ▸ (List.getElem?_eq_some_iff.mp hx).1)
        exact hnx A s i Q E hs hi (by rw [hx]; exact hq)
      · exact hnx A s es.size Q E hs (Nat.le_refl _) (by rw [List.getElem?_eq_none (Nat.le_of_eq hn)]; exact hq)
    · rw [ho', h0]; rfl
    · rcases List.mem_cons.mp hb with rfl | hb
      · exact .inr (Nat.le_refl _)
      · exact .inl (List.mem_singleton.mp hb)
  cases hled : ledOf w with
  | false =>
    show wpAny _ _ (if false = true then _ else _) _ _ _
    rw [if_neg Bool.false_ne_true]
    have hpk := (pick_perm (w.params.setOrder S ep) es).map (·.2)
    refine slots (fun _ => 0) ((pickOrder (w.params.setOrder S ep) es).toList.map (·.2)) rfl (by rw [hpk.length_eq, List.length_map, Array.length_toList]) hpk fun A s i Q E hs hi hq => next_text hs hd hf hled hq
  | true =>
    rw [hled] at ht
    cases hpl : (!t.plain && decide (es.size > 1)) with
    | false =>
      show wpAny _ _ (if (!t.plain && decide (es.size > 1)) = true then _ else _) _ _ _
      rw [hpl, if_neg Bool.false_ne_true]
      exact slots (slAt t.place) (es.toList.map (·.2)) rfl (by rw [List.length_map, Array.length_toList]) (.refl _) fun A s i Q E hs hi hq => next_table hs hd hf ht hled hpl hi hq
    | true =>
      show wpAny _ _ (if (!t.plain && decide (es.size > 1)) = true then _ else _) _ _ _
      rw [hpl, if_pos rfl]
      refine wpAny_bind (any_order es.size (List.range es.size) s _ (List.length_range ..) fun ord d hord => ?_)
      have hlen : ord.length = es.size := by rw [hord.length_eq, List.length_range]
      show wpAny _ _ (newTuple (ord.map fun (k : Nat) => rawInt k) >>= _) _ _ _
      refine wpAny_bind ?_
      simp only [newTuple]
      refine wpAny_newObj_type ?_ (by show (List.toArray _).size ≤ _; rw [List.size_toArray, List.length_map, hlen]; exact hsz)
      refine made (.ref s.heap.objs.size) (s.heap.push { cls := .type "tuple", data := .seq (ord.map fun (k : Nat) => rawInt k).toArray }) d (fun o' ho' => ?_) (Heap.get?_push_of_some _ ho)
      have z1 : (s.heap.push { cls := .type "tuple", data := .seq (ord.map fun (k : Nat) => rawInt k).toArray }).objs.size = s.heap.objs.size + 1 := Heap.size_push ..
      refine fin (s.heap.push { cls := .type "tuple", data := .seq (ord.map fun (k : Nat) => rawInt k).toArray }).objs.size [(s.heap.push { cls := .type "tuple", data := .seq (ord.map fun (k : Nat) => rawInt k).toArray }).objs.size, S, s.heap.objs.size] [(s.heap.push { cls := .type "tuple", data := .seq (ord.map fun (k : Nat) => rawInt k).toArray }).objs.size] (ord.map fun k => ((es.toList.map (·.2))[k]?).getD .none) (fun i h => ItAt h (s.heap.push { cls := .type "tuple", data := .seq (ord.map fun (k : Nat) => rawInt k).toArray }).objs.size (.ref s.heap.objs.size) i S es.size ep ∧ h.get? S = some o ∧ h.IsTuple s.heap.objs.size (ord.map fun (k : Nat) => rawInt k).toArray) _ _ (fun A hA => ?_) ⟨⟨o', Heap.get?_push_size _ (ho' ▸ rfl), ho' ▸ rfl, ho' ▸ rfl⟩, Heap.get?_push_of_some _ (Heap.get?_push_of_some _ ho), ⟨_, Heap.get?_push_of_some _ (Heap.get?_push_size _ rfl), rfl, _, rfl⟩⟩
        (fun b o q => Heap.get?_push_of_some _ (Heap.get?_push_of_some _ q)) (by simp; omega) (fun b hb => by rw [List.mem_singleton.mp hb, z1]; exact Nat.le_succ _) (fun b hb => ?_) ?_
      · rw [List.length_map, hlen]
        exact walk_drawn hA (by rw [z1]; exact Nat.ne_of_lt (Nat.lt_succ_of_lt hSlt)) (by rw [z1]; exact Nat.ne_of_lt (Nat.lt_succ_self _)) hd hf hord
      · rcases List.mem_cons.mp hb with rfl | hb
        · exact .inr (by rw [z1]; exact Nat.le_succ _)
        rcases List.mem_cons.mp hb with rfl | hb
        · exact .inl rfl
        · exact .inr (Nat.le_of_eq (List.mem_singleton.mp hb).symm)
      · have := map_range (es.toList.map (·.2)) Value.none
        rw [List.length_map, Array.length_toList] at this
        exact (hord.map _).trans (List.Perm.of_eq this)
end
end

section
open PySem PySem.Calls PyProof.Rows PySem.W
set_option backward.match.sparseCases false
set_option maxRecDepth 100000
set_option linter.unusedVariables false
theorem items_list {ws : List Value} {acc : Array Value} (h : ItemsOf (fun i v => ws[i]? = some v) acc ws.length) : acc.toList = ws := by
  refine List.ext_getElem? fun i => ?_
  rw [Array.getElem?_toList]
  rcases Nat.lt_or_ge i acc.size with q | q
  · rw [Array.getElem?_eq_getElem q]
    exact (h.2 i _ (Array.getElem?_eq_getElem q)).symm
  · rw [Array.getElem?_eq_none q, List.getElem?_eq_none (h.1 ▸ q)]
section
variable {prog : Program} {w : World} {A : Around} {E : Value → Shared → Prop} {s : Shared} {S : Addr} {σ : List Int}
theorem SetI.typeIs {b : Bool} (hS : SetI prog w b s.heap S σ) : s.TypeIs (.ref S) "set" := by
  obtain ⟨o, es, ep, t, ho, hex, _⟩ := hS; exact ⟨o, ho, hex.1⟩
theorem collect_set (hh : A.handled = none) (hS : SetI prog w (ledOf w) s.heap S σ) (hσ : σ.length ≤ 64) {Q : List Value → Shared → Prop}
    (h : ∀ ws h' tk d, (ws.map ival).Perm σ → (∀ x ∈ ws, ∃ t, x = .int (ival x) t) → (∀ b o, s.heap.get? b = some o → h'.get? b = some o) → s.heap.objs.size ≤ h'.objs.size → Q ws { s with heap := h', toks := tk, drawn := d }) :
    wpAny (model prog w) A (collect (.ref S)) Q E s := by
  have hSlt : S < s.heap.objs.size := by obtain ⟨o, ho, _⟩ := hS.typeIs; exact Heap.lt_size ho
  unfold collect
  refine wpAny_bind (wpAny_runValue (codeAny_builtin PySem.F.entry_proto_collect ?_))
  rw [Around.under_plainId PySem.F.plain_proto_collect _]
  show wpAny _ A.in1 (newList [] >>= fun l => again (.builtin "list.__iadd__" ⟨[l, .ref S], []⟩)) _ _ s
  refine wpAny_bind (wpAny_newObj_type ?_)
  refine wpAny_pure ⟨plainId_quiet PySem.F.plain_list_iadd _, codeAny_builtin PySem.F.entry_list_iadd ?_⟩
  rw [Around.under_plainId PySem.F.plain_list_iadd _]
  have hS1 : SetI prog w (ledOf w) (s.heap.push { cls := .type "list", data := .seq ([] : List Value).toArray }) S σ := hS.at fun o e => Heap.get?_push_of_some _ e
  show wpAny _ A.in1 (Builtin.List.listExtendWith (.ref s.heap.objs.size) (.ref S) (.ref s.heap.objs.size)) _ _ _
  unfold Builtin.List.listExtendWith
  refine wpAny_bind (wpAny_typeOf (SetI.typeIs (s := { s with heap := _ }) hS1) ?_)
  have e1 : Builtin.List.listSameRef (.ref s.heap.objs.size) (.ref S) = false := by simp [Builtin.List.listSameRef, Nat.ne_of_gt hSlt]
  have e2 : (Value.type "set" == Value.type "list") = false := by decide
  have e3 : (Value.type "set" == Value.type "tuple") = false := by decide
  simp only [e1, e2, e3, Bool.or_false, Bool.false_eq_true, if_false]
  refine wpAny_bind (iter_set (s := { s with heap := _ }) hS1 fun v s' hw => ?_)
  obtain ⟨I, fp, wr, ws, St, h₂, d, rfl, rfl, W, st, k2, z2, hwr, hfp, hp, hi⟩ := hw
  dsimp only at k2 z2 hwr hfp ⊢
  refine wpAny_bind (wpAny_holding ?_)
  have hS2 := hS1.at (k2 S)
  have hT2 := SetI.typeIs (s := { s with heap := h₂, drawn := d }) hS2
  unfold Builtin.List.listLengthHint
  refine wpAny_bind (wpAny_specialOf hT2 PySem.F.slot_set_len.lookup ?_)
  wp_delta
  refine wpAny_bind (wpAny_isInstance (b := true) hT2 (by rw [isSubtype_type]; kernel_rfl) ?_)
  show wpAny _ A.in1 (typeOf (Value.ref S) >>= _) _ _ _
  refine wpAny_bind (wpAny_typeOf hT2 ?_)
  refine wpAny_pure ?_
  show wpAny _ A.in1 (rule "list.extend.makes-room" >>= fun _ => Builtin.List.listTouch (.ref s.heap.objs.size) >>= fun _ =>
    again (.builtin "list.extend.loop" ⟨[.ref s.heap.objs.size, .ref I, .ref s.heap.objs.size], []⟩)) _ _ _
  refine wpAny_bind (wpAny_rule ?_)
  have hL : h₂.get? s.heap.objs.size = some { cls := .type "list", data := .seq ([] : List Value).toArray } := k2 _ _ (Heap.get?_push_size _ rfl)
  refine wpAny_bind ?_
  show wpAny _ A.in1 (updateSeq s.heap.objs.size (·.push .none) >>= fun _ => updateSeq s.heap.objs.size (·.pop)) _ _ _
  refine wpAny_bind (wpAny_updateSeq (s := { s with heap := h₂, drawn := d }) hL rfl ?_)
  have hL2 := Heap.get?_update_self (Obj.mapSeq (·.push Value.none)) hL rfl
  refine wpAny_updateSeq hL2 rfl ?_
  have hL3 := Heap.get?_update_self (Obj.mapSeq (·.pop)) hL2 rfl
  have oth : ∀ b o, b ≠ s.heap.objs.size → h₂.get? b = some o → ((h₂.update s.heap.objs.size (Obj.mapSeq (·.push Value.none))).update s.heap.objs.size (Obj.mapSeq (·.pop))).get? b = some o :=
    fun b o hb e => (Heap.get?_update_other _ _ (Ne.symm hb)).trans ((Heap.get?_update_other _ _ (Ne.symm hb)).trans e)
  have hsz : (s.heap.push { cls := .type "list", data := .seq ([] : List Value).toArray }).objs.size = s.heap.objs.size + 1 := Heap.size_push ..
  rw [hsz] at hwr hfp
  have hLf : s.heap.objs.size ∉ fp := fun hm => by
    rcases hfp _ hm with e | e
    · exact Nat.ne_of_gt hSlt e
    · exact Nat.lt_irrefl _ e
  have hwl : ws.length ≤ sizeLine := by
    have := hp.length_eq
    rw [List.length_map] at this
    rw [this, sizeLine_eq]; omega
  refine wpAny_pure ⟨plainId_quiet PySem.F.plain_extend_loop _, codeAny_extend_loopS ((W A.in1 hh).toS) hwl _ hLf _ ws.length 0 _ _ _ rfl (Nat.zero_le _)
    ((W A hh).frame 0 h₂ _ st fun b hb o e => oth b o (fun z => hLf (z ▸ hb)) e) hL3 (ItemsOf.nil _) fun s' acc' c' hm hL' hacc => ?_⟩
  show wpAny _ A (load s.heap.objs.size >>= _) _ _ s'
  refine wpAny_bind (wpAny_load hL' (wpAny_pure ?_))
  rw [items_list hacc]
  have hold : ∀ b o, s.heap.get? b = some o → s'.heap.get? b = some o := fun b o e => by
    have hb := Heap.lt_size e
    refine hm.heap b o (fun hmem => ?_) (oth b o (Nat.ne_of_lt hb) (k2 _ _ (Heap.get?_push_of_some _ e)))
    rcases List.mem_cons.mp hmem with z | z
    · exact absurd hb (z ▸ Nat.lt_irrefl _)
    · exact absurd hb (Nat.not_lt.mpr (Nat.le_trans (Nat.le_succ _) (hwr b z)))
  obtain ⟨h', g', d', tk', os'⟩ := s'
  have eg : g' = s.gens := hm.gens
  have ed : d' = d := hm.drawn
  have eo : os' = s.os := hm.os
  subst eg; subst ed; subst eo
  exact h ws h' tk' d' hp hi hold (Nat.le_of_lt (Heap.lt_size hL'))
end
end

section
open PySem PySem.Calls PyProof.Rows PySem.W
set_option backward.match.sparseCases false
set_option maxRecDepth 100000
set_option linter.unusedVariables false
theorem insI_perm (x : Int) : ∀ l, (insI x l).Perm (x :: l)
  | [] => .refl _
  | y :: r => by
    unfold insI
    cases decide (x ≤ y) with
    | true => exact .refl _
    | false => exact ((insI_perm x r).cons y).trans (.swap x y r)
theorem sortI_perm : ∀ l, (sortI l).Perm l
  | [] => .refl _
  | x :: r => (insI_perm x (sortI r)).trans ((sortI_perm r).cons x)
theorem insI_sorted (x : Int) : ∀ l, l.Pairwise (· ≤ ·) → (insI x l).Pairwise (· ≤ ·)
  | [], _ => by simp [insI]
  | y :: r, h => by
    unfold insI
    rw [List.pairwise_cons] at h
    cases q : decide (x ≤ y) with
    | true =>
      have q := of_decide_eq_true q
      show (x :: y :: r).Pairwise _
      rw [List.pairwise_cons, List.pairwise_cons]
      refine ⟨fun z hz => ?_, h.1, h.2⟩
      rcases List.mem_cons.mp hz with rfl | hz
      · exact q
      · exact Int.le_trans q (h.1 z hz)
    | false =>
      have q := of_decide_eq_false q
      show (y :: insI x r).Pairwise _
      rw [List.pairwise_cons]
      refine ⟨fun z hz => ?_, insI_sorted x r h.2⟩
      rcases List.mem_cons.mp ((insI_perm x r).subset hz) with rfl | hz
      · omega
      · exact h.1 z hz
theorem sortI_sorted : ∀ l, (sortI l).Pairwise (· ≤ ·)
  | [] => .nil
  | x :: r => insI_sorted x _ (sortI_sorted r)
theorem sortI_uniq {l l' : List Int} (p : l'.Perm l) (s : l'.Pairwise (· ≤ ·)) : l' = sortI l :=
  List.Perm.eq_of_pairwise (le := (· ≤ ·)) (fun a b _ _ h1 h2 => Int.le_antisymm h1 h2) s (sortI_sorted l) (p.trans (sortI_perm l).symm)
theorem RVs.of_ints {W : Wd} {B : Heap} : ∀ {ys is}, IntsAre ys is → RVs W B (is.map V.int) ys
  | _, _, .nil => .nil
  | _, _, .cons _ _ h => .cons .int (RVs.of_ints h)
theorem onR_inv {α : Type} {f : Int → Option α} {v : V} {a : α} (h : onR f v = some a) : ∃ n, v = .range n ∧ f n = some a := by
  rcases v with ⟨⟩
  case range n => exact ⟨n, rfl, h⟩
  all_goals exact nos h
section
variable {W : Wd} {g : Gl} {B₀ B : Heap} {ρ : List Addr} {env : Env} {cx : Cx} {σ σ' : S} {s : Shared} {A' : Around} {n : Nat} {ih : Ih} {E : Value → Shared → Prop} {Q : Value → Shared → Prop}
theorem Kont.kept {c : V} (X : Sta W B₀ B ρ env cx σ s) (k : Kont W B₀ env cx B ρ σ s c Q) {h' : Heap} {t : Nat} {a : Addr} {o : Obj} (sub : Sub s.heap h') (hz : s.heap.objs.size ≤ h'.objs.size) (ho : h'.get? a = some o) (ha : s.heap.objs.size ≤ a)
    (h : ∀ B', Sub B B' → B'.get? a = some o → RV W B' c (.ref a)) : Q (.ref a) { s with heap := h', toks := t } := by
  obtain ⟨B', e, Y, hB⟩ := X.made (k := t) sub hz ho ha
  exact k B' _ _ e Y (h B' e.sub hB)
theorem Kont.grown {c : V} (X : Sta W B₀ B ρ env cx σ s) (k : Kont W B₀ env cx B ρ σ s c Q) {h' : Heap} {t : Nat} {v : Value} (sub : Sub s.heap h') (hz : s.heap.objs.size ≤ h'.objs.size) (h : RV W B c v) : Q v { s with heap := h', toks := t } :=
  k B _ v (Ext.grow sub hz) (X.grow sub hz) h
theorem ints_range {W : Wd} {B : Heap} {n : Nat} {acc : Array Value} (h : ItemsOf (fun i v => ∃ t, v = Value.int (0 + (i : Int) * 1) t) acc n) : RVs W B (rangeV n) acc.toList := by
  have hsz : acc.size = n := h.1
  have key : ∀ (m : Nat) (l : List Value) (k : Nat), l.length = m → (∀ (i : Nat) (v : Value), l[i]? = some v → ∃ t, v = Value.int ((k + i : Nat) : Int) t) → RVs W B ((List.range' k m).map fun i => V.int (Int.ofNat i)) l := by
    intro m
    induction m with
    | zero =>
      intro l k hl _
      have : l = [] := List.length_eq_zero_iff.mp hl
      subst this; exact .nil
    | succ m ih =>
      intro l k hl hv
      cases l with
      | nil => simp at hl
      | cons v r =>
        rw [List.range'_succ, List.map_cons]
        obtain ⟨t, ht⟩ := hv 0 v (by simp)
        subst ht
        refine .cons RV.int (ih r (k + 1) (by simpa using hl) fun i v e => ?_)
        obtain ⟨t, ht⟩ := hv (i + 1) v (by simpa using e)
        exact ⟨t, by rw [ht]; congr 2; omega⟩
  unfold rangeV
  have e : (n : Int).toNat = n := by simp
  rw [e, List.range_eq_range']
  refine key n acc.toList 0 (by simp [hsz]) fun i v hv => ?_
  obtain ⟨t, ht⟩ := h.2 i v (by simpa using hv)
  exact ⟨t, by rw [ht]; congr 1; simp⟩
theorem bfs_len (X : Sta W B₀ B ρ env cx σ s) {v c : V} {x : Value} (r : RV W B v x) (h : bfun .len v = some c) (k : Kont W B₀ env cx B ρ σ s c Q) : wpAny (model W.prog W.w) A' (call (.builtin "len") [x] []) Q E s := by
  rcases onBISL_inv h with ⟨_, _, h⟩ | ⟨_, _, h⟩ | ⟨p, rfl, h1⟩ | ⟨p, rfl, h1⟩
  · exact nos h
  · exact nos h
  · obtain ⟨hz, rfl⟩ := conds h1
    obtain ⟨_, rfl⟩ := r.str_inv
    have : p.length ≤ 1100000 := Nat.le_of_ble_eq_true hz
    exact PySem.P.len_str (by omega) (k.toks X _ .int)
  · obtain ⟨hz, rfl⟩ := conds h1
    obtain ⟨l, its, rfl, hl, hi, _⟩ := r.isList
    have e : p.length = its.size := by rw [hi.length]; simp
    have : p.length ≤ 1100000 := Nat.le_of_ble_eq_true hz
    exact call_len_list (X.list hl) (by rw [← e]; omega) (by rw [← e]; exact k.toks X _ .int)
theorem bfs_sum (hh : A'.handled = none) (X : Sta W B₀ B ρ env cx σ s) {v c : V} {x : Value} (r : RV W B v x) (h : bfun .sum v = some c) (k : Kont W B₀ env cx B ρ σ s c Q) : wpAny (model W.prog W.w) A' (call (.builtin "sum") [x] []) Q E s := by
  obtain ⟨p, rfl, h1⟩ := onL_inv h
  rcases his : intsOf p with _ | is <;> rw [his] at h1
  · exact nos h1
  obtain rfl := Option.some.inj h1
  obtain ⟨l, its, rfl, hl, hi, _⟩ := r.isList
  have hI := hi.ints his
  obtain ⟨xs, rfl⟩ := (show AllInts its by simpa using hI.allInts).items
  have e : is.sum = preSum (numAt xs) xs.size := by
    rw [← hI.numsOf, nums_intItems, preSum_eq, List.take_of_length_le (by simp)]
  refine with_size (sum_intListG hh (X.list hl) fun h' tk t' hk hsz => ?_)
  rw [← e]
  exact k.grown X hk hsz .int
theorem bfs_list (hh : A'.handled = none) (X : Sta W B₀ B ρ env cx σ s) {v c : V} {x : Value} (r : RV W B v x) (h : bfun .list v = some c) (k : Kont W B₀ env cx B ρ σ s c Q) : wpAny (model W.prog W.w) A' (call (.type "list") [x] []) Q E s := by
  obtain ⟨_, rfl, h1⟩ := onR_inv h
  obtain ⟨i, rfl, h2⟩ := natOf_inv h1
  obtain ⟨hz, rfl⟩ := conds h2
  have hle := Nat.le_of_ble_eq_true hz
  obtain ⟨a, t1, t2, t3, rfl, hr⟩ := r.range_inv
  have hc : Int.ofNat i = (i : Int) := rfl
  refine with_size (call_list_range (n := i) hh (X.stays _ _ hr) (small_one (by omega) (by omega) (by rw [hc]; omega) (by rw [hc]; omega)) ?_ (by omega) fun h' tk acc' c' hk ho hit hsz => ?_)
  · rw [rangeSize_one]; rw [hc]; split <;> omega
  · exact k.kept X hk hsz ho (Nat.le_refl _) fun B' sb hB => RV.newList hB (ints_range hit)
theorem bfs_sorted (X : Sta W B₀ B ρ env cx σ s) {v c : V} {x : Value} (r : RV W B v x) (h : bfun .sorted v = some c) (k : Kont W B₀ env cx B ρ σ s c Q) : wpAny (model W.prog W.w) A' (call (.builtin "sorted") [x] []) Q E s := by
  obtain ⟨p, rfl, h1⟩ := onL_inv h
  rcases his : intsOf p with _ | is <;> rw [his] at h1
  · exact nos h1
  obtain ⟨hz, rfl⟩ := conds h1
  obtain ⟨l, its, rfl, hl, hi, _⟩ := r.isList
  have hI := hi.ints his
  have hlt : is.length < 64 := by simpa using hz
  refine with_size (sorted_ints (vs := its.toList) (by simpa using X.list hl) hI (by rw [IntsAre.length hI]; exact hlt) fun out ns' a1 a2 a3 hsz => ?_)
  obtain ⟨e, he⟩ := sortedAll_at s.heap its.toList out
  refine k.kept X (t := s.toks) (fun _ _ => sortedAll_old) hsz he (Nat.le_succ _) fun B' sb hB => RV.newList hB ?_
  rw [← sortI_uniq a2 a3]
  exact RVs.of_ints a1
theorem bf_sound (hA : Room W A' n) (X : Sta W B₀ B ρ env cx σ s) {b : Bf} {v c : V} {x : Value} (r : RV W B v x) (h : bfun b v = some c) (k : Kont W B₀ env cx B ρ σ s c Q) :
    wpAny (model W.prog W.w) A' (call (bfVal b) [x] []) Q E s := by
  rcases b with ⟨⟩
  case len => exact bfs_len X r h k
  case sum => exact bfs_sum hA.1 X r h k
  case sorted => exact bfs_sorted X r h k
  case list => exact bfs_list hA.1 X r h k
  case hex =>
    obtain ⟨_, rfl, h1⟩ := onI_inv h
    obtain ⟨i, rfl, h2⟩ := natOf_inv h1
    obtain ⟨_, h3⟩ := condn h2
    obtain ⟨hy, rfl⟩ := conds h3
    obtain ⟨_, rfl⟩ := r.int_inv
    have := Nat.le_of_ble_eq_true hy
    have hlim : lim = 1100000 := rfl
    exact PySem.P.hex_of_int (k.toks X _ .str) (by unfold sizeLine; omega)
  case range =>
    obtain ⟨_, rfl, h1⟩ := onI_inv h
    obtain ⟨i, rfl, h2⟩ := natOf_inv h1
    obtain ⟨_, rfl⟩ := conds h2
    obtain ⟨_, rfl⟩ := r.int_inv
    exact call_range_1 (k.push X _ rfl fun B' sb hB => .range hB)
  all_goals exact nos h
end
end

section
open PySem PySem.Calls PyProof.Rows PySem.W
set_option backward.match.sparseCases false
set_option maxRecDepth 100000
set_option linter.unusedVariables false
section
variable {prog : Program} {w : World} {A : Around} {E : Value → Shared → Prop} {s : Shared} {Q : Value → Shared → Prop}
theorem iter_list {l : Addr} {items : Array Value} (hl : s.heap.IsList l items)
    (h : Q (.ref s.heap.objs.size) { s with heap := s.heap.push { cls := .type "list_iterator", data := .fields #[.ref l, .int 0 0] } }) :
    wpAny (model prog w) A (call (.builtin "iter") [.ref l]) Q E s := by
  refine call_function_entry (by decide +kernel) (by decide +kernel) kdk_entry_iter (kdk_args_iter _) ?_
  unfold Builtin.«iter»
  refine wpAny_bind (m := someArgs "iter" 1 2 _) (wpAny_of_eq (a := [Value.ref l]) (by first | rfl | kernel_rfl!) ?_)
  show wpAny _ _ (pyIter (.ref l) >>= _) _ _ _
  exact wpAny_bind (wpAny_pyIter_list hl (wpAny_pure ⟨_, rfl, h⟩))
theorem next_head {it l : Addr} {i : Nat} (hit : s.heap.IsListIter it l i)
    (h : wpAny (model prog w) A.in1 (callSpecial? (.ref it) (Str.ofString "__next__")) (fun r s' => ∃ x, r = some x ∧ Q x s') E s) :
    wpAny (model prog w) A (call (.builtin "next") [.ref it]) Q E s := by
  refine call_function_entry (by decide +kernel) (by decide +kernel) kdk_entry_next (kdk_args_next _) ?_
  unfold Builtin.«next»
  refine wpAny_bind (m := someArgs "next" 1 2 _) (wpAny_of_eq (a := [Value.ref it]) (by first | rfl | kernel_rfl!) ?_)
  dsimp only
  refine wpAny_bind (wpAny_specialOf (name := Str.ofString "__next__") hit.typeIs slot_listiter_next.lookup ?_)
  refine wpAny_ite_split (fun hab => absurd hab (by decide)) (fun _ => ?_)
  refine wpAny_bind (wpAny_mono h (fun r s' ⟨x, hx, hq⟩ => ?_) fun _ _ e => e)
  subst hx
  exact wpAny_pure ⟨_, rfl, hq⟩
theorem next_item {it l : Addr} {i : Nat} {items : Array Value} {x : Value} (hit : s.heap.IsListIter it l i) (hl : s.heap.IsList l items) (hx : items[i]? = some x)
    (hQ : ∀ h', h'.IsListIter it l (i + 1) → Heap.SameBut it s.heap h' → Q x { s with heap := h' }) :
    wpAny (model prog w) A (call (.builtin "next") [.ref it]) Q E s := by
  refine next_head hit ?_
  obtain ⟨o, ho, hc, hd⟩ := id hit
  obtain ⟨ol, hol, _, nl, hdl⟩ := hl
  refine wpAny_callSpecial?_slot (name := Str.ofString "__next__") hit.typeIs slot_listiter_next
    (wpAny_call_entry slot_listiter_next hit.typeIs entry_listiter_next ?_ (args_listiter_next _))
  show wpAny _ _ (field (.ref it) 0 >>= _) _ _ s
  refine wpAny_bind (wpAny_field ho hd (x := .ref l) rfl ?_)
  show wpAny _ _ (if (Value.ref l == Value.none) = true then _ else _) _ _ s
  rw [if_neg (show ¬ ((Value.ref l == Value.none) = true) from Bool.false_ne_true)]
  show wpAny _ _ (field (.ref it) 1 >>= _) _ _ s
  refine wpAny_bind (wpAny_field ho hd (x := .int i 0) rfl ?_)
  show wpAny _ _ (seqItems? (.ref l) >>= _) _ _ s
  refine wpAny_bind (wpAny_seqItems hol hdl ?_)
  simp only [Int.toNat_natCast, hx]
  refine wpAny_bind (wpAny_setField ho hd (by simp) (wpAny_pure ⟨x, rfl, ?_⟩))
  refine ⟨x, rfl, hQ _ ?_ (Heap.SameBut.update ..)⟩
  exact ⟨_, Heap.get?_update_self _ ho (Obj.isFreed_of_fields (Obj.data_mapFields hd _)), (Obj.cls_mapFields ..).trans hc, by
    rw [Obj.data_mapFields hd]; simp [rawInt]⟩
theorem next_stop {it l : Addr} {i : Nat} {items : Array Value} (hh : A.handled = none) (hit : s.heap.IsListIter it l i) (hl : s.heap.IsList l items) (hx : items[i]? = none)
    (hE : ∀ h₁ h' e ob vs, Heap.SameBut it s.heap h₁ → Sub h₁ h' → s.heap.objs.size ≤ e → h'.get? e = some ob → ob.cls = .type "StopIteration" → ob.data = .fields vs → vs[1]? = some .none → E (.ref e) { s with heap := h' }) :
    wpAny (model prog w) A (call (.builtin "next") [.ref it]) Q E s := by
  refine next_head hit ?_
  obtain ⟨o, ho, hc, hd⟩ := id hit
  obtain ⟨ol, hol, _, nl, hdl⟩ := hl
  refine wpAny_callSpecial?_slot (name := Str.ofString "__next__") hit.typeIs slot_listiter_next
    (wpAny_call_entry slot_listiter_next hit.typeIs entry_listiter_next ?_ (args_listiter_next _))
  show wpAny _ _ (field (.ref it) 0 >>= _) _ _ s
  refine wpAny_bind (wpAny_field ho hd (x := .ref l) rfl ?_)
  show wpAny _ _ (if (Value.ref l == Value.none) = true then _ else _) _ _ s
  rw [if_neg (show ¬ ((Value.ref l == Value.none) = true) from Bool.false_ne_true)]
  show wpAny _ _ (field (.ref it) 1 >>= _) _ _ s
  refine wpAny_bind (wpAny_field ho hd (x := .int i 0) rfl ?_)
  show wpAny _ _ (seqItems? (.ref l) >>= _) _ _ s
  refine wpAny_bind (wpAny_seqItems hol hdl ?_)
  simp only [Int.toNat_natCast, hx]
  refine wpAny_bind (wpAny_rule (wpAny_bind (wpAny_setField ho hd (by simp) ?_)))
  show wpAny _ _ (newExc (.type "StopIteration") [] >>= _) _ _ _
  refine wpAny_bind ?_
  simp only [newExc, newTuple]
  refine wpAny_bind (wpAny_newObj_type ?_ (by size_fits))
  refine wpAny_bind (m := firstArgMember _ _) (wpAny_of_eq (a := Value.none) (by first | rfl | (simp only [firstArgMember]; rfl)) ?_)
  refine wpAny_newObj_type ?_ (by size_fits)
  simp only [raiseNew]
  refine wpAny_bind (wpAny_handled ?_)
  rw [show A.in1.in1.handled = none from hh]
  refine wpAny_bind (wpAny_pure (wpAny_throw ?_))
  refine hE _ _ _ _ _ (Heap.SameBut.update ..) (fun b o' q => Heap.get?_push_of_some _ (Heap.get?_push_of_some _ q)) ?_ (Heap.get?_push_size _ rfl) rfl rfl rfl
  simp only [Heap.size_push, Heap.size_after_update]
  exact Nat.le_succ _
end
section
variable {W : Wd} {g : Gl} {B₀ B : Heap} {ρ : List Addr} {env : Env} {cx : Cx} {σ σ' : S} {s : Shared} {A' : Around} {n : Nat} {ih : Ih} {E : Value → Shared → Prop} {Q : Value → Shared → Prop}
inductive Fresh (W : Wd) (B₀ : Heap) (env : Env) (cx : Cx) (B : Heap) (ρ : List Addr) (s : Shared) (σ' : S) (m : M) (x : Value) (s' : Shared) : Prop
  | mk (B₁ : Heap) (ρ₁ : List Addr) (s₁ : Shared) (h' : Heap) (t : Nat) (a : Addr) (o : Obj) (h1 : Ext env.locals B ρ s B₁ ρ₁ s₁) (h2 : Sta W B₀ B₁ ρ₁ env cx σ' s₁) (h3 : s' = { s₁ with heap := h', toks := t }) (h4 : Sub s₁.heap h')
    (h5 : s₁.heap.objs.size ≤ h'.objs.size) (h6 : s₁.heap.objs.size ≤ a) (h7 : h'.get? a = some o) (h8 : x = .ref a) (h9 : RM W B₁ ρ₁ h' a m)
theorem fresh_val {m : M} {v : V} {x : Value} {s' : Shared} (h : Fresh W B₀ env cx B ρ s σ' m x s') (hv : thaw m = some v) : Good W B₀ env cx B ρ s σ' (fun B' ρ' x => RA W B' ρ' (.val v) x) x s' := by
  obtain ⟨B₁, ρ₁, s₁, h', t, a, o, e1, st1, rfl, sub, hz, ha, ho, rfl, hm⟩ := h
  obtain ⟨B', e, Y, hB⟩ := st1.made (k := t) sub hz ho ha
  obtain ⟨o', ho', hr⟩ := thaw_ob (s := { s₁ with heap := h', toks := t }) hm hv
  obtain rfl := Option.some.inj (ho.symm.trans ho')
  exact ⟨B', ρ₁, e1.trans e, Y, .val (hr B' e.sub hB)⟩
theorem fresh_list {xs : List V} {items : Array Value} {t : Nat} {B₁ : Heap} {ρ₁ : List Addr} {s₁ : Shared} (e1 : Ext env.locals B ρ s B₁ ρ₁ s₁) (st1 : Sta W B₀ B₁ ρ₁ env cx σ' s₁) (r : RVs W B₁ xs items.toList) :
    Fresh W B₀ env cx B ρ s σ' (.lst xs) (.ref s₁.heap.objs.size) { s₁ with heap := s₁.heap.push { cls := .type "list", data := .seq items }, toks := t } :=
  ⟨B₁, ρ₁, s₁, _, t, _, _, e1, st1, rfl, fun b o q => Heap.get?_push_of_some _ q, by simp, Nat.le_refl _, Heap.get?_push_size _ rfl, rfl, items, ⟨0, Heap.get?_push_size _ rfl⟩, r⟩
theorem foldl_one (y : Value) : ∀ (k : Nat) (acc : Array Value), ((List.replicate k #[y]).foldl (fun x1 x2 => x1 ++ x2) acc).toList = acc.toList ++ List.replicate k y
  | 0, acc => by simp
  | k + 1, acc => by rw [List.replicate_succ, List.foldl_cons, foldl_one y k]; simp [List.replicate_succ]
theorem mul_base {l : Addr} {items : Array Value} {k : Nat} {x : Int} {u : Tok} (hl : s.heap.get? l = some { cls := .type "list", data := .seq items k })
    (hlo : -(2 ^ 63 : Int) ≤ x) (hhi : x < 2 ^ 63) (hsz : items.size * x.toNat ≤ 2 ^ 24)
    (h : Q (.ref s.heap.objs.size) { s with heap := s.heap.push { cls := .type "list", data := .seq (List.foldl (fun x1 x2 => x1 ++ x2) #[] (List.replicate (if items.isEmpty = true then 0 else x.toNat) items)) } }) :
    wpAny (model W.prog W.w) A' (binaryOp .Mult (.ref l) (.int x u)) Q E s :=
  wpAny_binaryOp_repeat_ref (T := "list") (U := "int") (by decide) ⟨_, hl, rfl⟩ (fun s' => typeIs_int s' x u) noFill_list_mul PySem.F.fills_int_mul PySem.F.slot_int_rmul repeat_list PySem.F.slot_int_index.lookup
    (call_meets PySem.F.slot_int_rmul (typeIs_int s x u) PySem.F.entry_int_rmul (PySem.F.args_int_rmul_2 _ _) (int___rmul___int_list x u l items k)
      ⟨hl, rfl, ⟨_, hl, rfl⟩, call_meets PySem.F.slot_list_mul ⟨_, hl, rfl⟩ PySem.F.entry_list_mul (PySem.F.args_list_mul_2 _ _)
        (AutoListH.list___mul___list_int_3 l items k x u (by simp [Builtin.List.listFitsIndex]; omega) (by omega) (by simp [Builtin.List.listTooLong, sizeLine]; omega))
        ⟨hl, h⟩⟩)
theorem mods_lt (hb : BaseOk W g B₀) (X : Sta W B₀ B ρ env cx σ s) : sysModules < s.heap.objs.size := by
  obtain ⟨mc, hn, _⟩ := hb.nolimit.keeps (X.base.trans X.stays)
  obtain ⟨o, _, _, ho, _⟩ := hn
  exact Nat.lt_trans (by decide) (Heap.lt_size ho)
theorem splitCall_inv {f : Expr} {es : List Expr} {ks : List Keyword} {q : (Expr × Str × Pos) × Expr} (h : splitCall f es ks = some q) : f = .Attribute q.1.1 q.1.2.1 q.1.2.2 ∧ mtOf q.1.2.1 = some .split ∧ ks = [] ∧ es = [q.2] := by
  obtain ⟨u, h1, h⟩ := obind h
  obtain ⟨m, h2, h⟩ := obind h
  obtain ⟨h3, h⟩ := condn h
  obtain ⟨e, h4, rfl⟩ := omap h
  have h3 := Bool.and_eq_true_iff.mp h3
  refine ⟨attrE_inv h1, h2.trans ?_, isEmpty_inv h3.2, one_inv h4⟩
  rcases m with ⟨⟩ <;> first | rfl | exact ff_tt h3.1
theorem rep_inv {vs : List V} {kv : V} {m : M} (h : repOf vs kv = some m) : ∃ v k, vs = [v] ∧ kv = .int (.ofNat k) ∧ k ≤ 1000 ∧ m = .lst (List.replicate k v) := by
  obtain ⟨v, h1, h2⟩ := obind h
  obtain ⟨_, rfl, h3⟩ := onI_inv h2
  obtain ⟨k, rfl, h4⟩ := natOf_inv h3
  obtain ⟨hz, rfl⟩ := conds h4
  exact ⟨v, k, one_inv h1, rfl, Nat.le_of_ble_eq_true hz, rfl⟩
theorem split_inv {ov : V} {as : List V} {m : M} (h : splitOf ov as = some m) : ∃ s y, ov = .str s ∧ as = [.str y] ∧ s.length ≤ 1100000 ∧ (y.length == 0) = false ∧ m = .lst ((Txt.split s y).map V.str) := by
  obtain ⟨_, h1, h2⟩ := obind h
  obtain ⟨s, rfl, h3⟩ := onS_inv h2
  obtain ⟨y, rfl, h4⟩ := onS_inv h3
  obtain ⟨hz, rfl⟩ := conds h4
  have hz := Bool.and_eq_true_iff.mp hz
  exact ⟨s, y, rfl, one_inv h1, Nat.le_of_ble_eq_true hz.1, by have := Nat.ne_of_beq_eq_false (by simpa using hz.2 : Nat.beq y.length 0 = false); simpa using this, rfl⟩
theorem rep_sound (H : IhOk W g B₀ ih n) (hA : Room W A' n) (X : Sta W B₀ B ρ env cx σ s) {e0 ke : Expr} {p p' : Pos} {v : V} {q : Nat} {σ₁ : S} (h1 : exVs ih cx σ [e0] = .ok [v] σ₁) (h3 : ih.ex cx σ₁ ke = .ok (.val (.int (.ofNat q))) σ') (hle : q ≤ 1000) :
    wpAny (model W.prog W.w) A' (eval (.BinOp (.List [e0] p) .Mult ke p') env) (Fresh W B₀ env cx B ρ s σ' (.lst (List.replicate q v))) No s := by
  refine wpAny_BinOp (List_ (good_step (β := Value) (exVs_sound H hA p h1 X) fun B₁ ρ₁ s₁ xs e1 st1 r1 => ?_))
  obtain ⟨x0, rfl, ra⟩ := r1.one_inv
  refine wpAny_newList ?_ (by show 1 ≤ _; unfold sizeLine; omega)
  have hp : (s₁.heap.push { cls := .type "list", data := .seq [x0].toArray }).get? s₁.heap.objs.size = some { cls := .type "list", data := .seq [x0].toArray } := Heap.get?_push_size _ rfl
  have g1 : Ext env.locals B₁ ρ₁ s₁ B₁ ρ₁ { s₁ with heap := s₁.heap.push { cls := .type "list", data := .seq [x0].toArray } } := Ext.grow (k := s₁.toks) (fun b o q => Heap.get?_push_of_some _ q) (by simp)
  have g2 := st1.grow (k := s₁.toks) (h' := s₁.heap.push { cls := .type "list", data := .seq [x0].toArray }) (fun b o q => Heap.get?_push_of_some _ q) (by simp)
  refine exV H h3 hA g2 fun B₂ ρ₂ s₂ y e2 st2 r2 => ?_
  obtain ⟨tk, rfl⟩ := r2.int_inv
  have hp2 := e2.kept (by show Value.type "list" ≠ Value.type "frame"; decide) (fun z => Nat.lt_irrefl _ (z ▸ st1.Llt)) (fun z => Nat.lt_irrefl _ (st1.lt _ z)) hp
  refine mul_base hp2 (by show -(2 ^ 63 : Int) ≤ (q : Int); omega) (by show (q : Int) < 2 ^ 63; omega) (by show 1 * q ≤ 2 ^ 24; omega) ?_
  refine fresh_list (t := s₂.toks) ((e1.trans g1).trans e2) st2 ?_
  have : (if (#[x0] : Array Value).isEmpty = true then 0 else (Int.ofNat q).toNat) = q := by simp
  rw [this, foldl_one]
  simpa using RVs.replicate ((ra.mono g1.sub).mono e2.sub) q
theorem split_sound (H : IhOk W g B₀ ih n) (hA : Room W A' n) (X : Sta W B₀ B ρ env cx σ s) {o e0 : Expr} {nm : Str} {apos pos : Pos} {p y : Str} {σ₁ : S} (hm : mtOf nm = some .split) (hk : methOk o [e0] apos pos = true) (h1 : ih.ex cx σ o = .ok (.val (.str p)) σ₁)
    (h3 : exVs ih cx σ₁ [e0] = .ok [.str y] σ') (hle : p.length ≤ 1100000) (hz : (y.length == 0) = false) :
    wpAny (model W.prog W.w) A' (eval (.Call (.Attribute o nm apos) [e0] [] pos) env) (Fresh W B₀ env cx B ρ s σ' (.lst ((Txt.split p y).map V.str))) No s := by
  obtain rfl := mtOf_name hm
  obtain ⟨as', σ₃, g1, g2⟩ := Out.bind_ok h3
  obtain ⟨g3, rfl⟩ := Out.of_ok g2
  refine wpAny_Call_method (attr_base hk) (few_ok g1 hk) (line_ok hk) PySem.F.plainAttrs_str PySem.F.slot_str_split PySem.F.type_str_split ?_
  refine exV H h1 hA X fun B₁ ρ₁ s₁ x e1 st1 r1 => ?_
  obtain ⟨_, rfl⟩ := r1.str_inv
  refine ⟨typeIs_str _ _ _, (fun a e => nomatch e), ?_⟩
  refine callW H hA g1 st1 (fun _ _ => keeper_builtin) fun B₂ ρ₂ s₂ xs e2 st2 r2 => ?_
  obtain ⟨_, rfl, a⟩ := (r2.vals g3).one_inv
  obtain ⟨_, rfl⟩ := a.str_inv
  refine split_base hz (fun l k hl => ?_) (by unfold sizeLine; omega)
  exact fresh_list (e1.trans e2) st2 (RVs.of_strs (by simpa using strs_values hl))
theorem exF_sound (hb : BaseOk W g B₀) (H : IhOk W g B₀ ih n) (hA : Room W A' n) (X : Sta W B₀ B ρ env cx σ s) {e : Expr} {m : M} (h : exF ih cx σ e = .ok m σ') :
    wpAny (model W.prog W.w) A' (eval e env) (Fresh W B₀ env cx B ρ s σ' m) No s := by
  rcases e with ⟨⟩
  case List es p =>
    obtain ⟨vs, σ₁, h1, h2⟩ := Out.bind_ok h
    obtain ⟨hz, h2⟩ := cond_tb h2
    obtain ⟨rfl, rfl⟩ := ok_inj h2
    have hle : vs.length ≤ 1100000 := Nat.le_of_ble_eq_true hz
    refine List_ (good_step (β := Value) (exVs_sound H hA p h1 X) fun B₁ ρ₁ s₁ xs e1 st1 r1 => ?_)
    refine wpAny_newList ?_ (by rw [← r1.length]; unfold sizeLine; omega)
    exact fresh_list (t := s₁.toks) e1 st1 (by simpa using r1)
  case BinOp l op ke p' =>
    obtain ⟨ho, h2⟩ := cond_tb h
    obtain ⟨e0, h3, h4⟩ := optB_ok h2
    obtain ⟨vs, σ₁, h5, h6⟩ := Out.bind_ok h4
    obtain ⟨kv, σ₂, h7, h8⟩ := Out.bindV_ok h6
    obtain ⟨h9, rfl⟩ := Out.of_ok h8
    obtain ⟨es, g1, g2⟩ := obind h3
    obtain ⟨p, rfl⟩ := listE_inv g1
    obtain rfl := one_inv g2
    obtain ⟨v, k, rfl, rfl, hle, rfl⟩ := rep_inv h9
    rcases op with ⟨⟩
    case Mult => exact rep_sound H hA X h5 h7 hle
    all_goals exact ff_tt ho
  case Dict ks vs p =>
    obtain ⟨hz, h2⟩ := cond_tb h
    obtain ⟨rfl, rfl⟩ := ok_inj h2
    have hz := Bool.and_eq_true_iff.mp hz
    obtain rfl := isEmpty_inv hz.1
    obtain rfl := isEmpty_inv hz.2
    refine wpAny_Dict_empty ?_
    refine ⟨B, ρ, s, _, s.toks, _, _, Ext.refl .., X, rfl, fun b o q => Heap.get?_push_of_some _ q, by simp, Nat.le_refl _, Heap.get?_push_size _ rfl, rfl, fun _ => none, [], 0, Heap.MapOf.new _, ?_, Heap.DictLe.new _, Nat.le_refl _, .nil, fun _ => rfl, rfl, fun k hk => by simp at hk⟩
    exact Nat.ne_of_gt (mods_lt hb X)
  case Call f es ks pos =>
    obtain ⟨q, h1, h2⟩ := optB_ok h
    obtain ⟨hk, h3⟩ := cond_bt h2
    obtain ⟨ov, σ₁, h4, h5⟩ := Out.bindV_ok h3
    obtain ⟨as, σ₂, h6, h7⟩ := Out.bind_ok h5
    obtain ⟨h8, rfl⟩ := Out.of_ok h7
    obtain ⟨rfl, hm, rfl, rfl⟩ := splitCall_inv h1
    obtain ⟨p, y, rfl, rfl, hle, hz, rfl⟩ := split_inv h8
    exact split_sound H hA X hm (not_f hk) h4 h6 hle hz
  all_goals exact bad_ok h
end
end

section
open PySem PySem.Calls PyProof.Rows PySem.W
set_option backward.match.sparseCases false
set_option maxRecDepth 100000
set_option linter.unusedVariables false
section
variable {W : Wd} {g : Gl} {B₀ B : Heap} {ρ : List Addr} {env : Env} {cx : Cx} {σ σ' : S} {s : Shared} {A' : Around} {n : Nat} {ih : Ih} {E : Value → Shared → Prop} {Q : Value → Shared → Prop}
theorem Sta.after_call (X : Sta W B₀ B ρ env cx σ s) {B' : Heap} {mem' : List (Option M)} {s' : Shared} (e : Ext s.heap.objs.size B ρ s B' ρ s') (c : CSta W B₀ B' ρ mem' s') :
    Ext env.locals B ρ s B' ρ s' ∧ Sta W B₀ B' ρ env cx ⟨σ.loc, mem'⟩ s' := by
  have keep : ∀ b o, b ∉ ρ → s.heap.get? b = some o → ∃ o', s'.heap.get? b = some o' ∧ Kp o o' := fun b o hr q => e.keep b o (Nat.ne_of_lt (Heap.lt_size q)) hr q
  refine ⟨⟨e.sub, e.new, e.rho, fun b o _ hr q => keep b o hr q, e.size, e.rest⟩, c.stays, c.base, X.ok, ?_, ⟨?_, X.L.2⟩, c.len, c.nodup, c.lt, c.mem, X.fr_of e.size fun o ho => let ⟨o', h1, h2⟩ := keep _ o X.L.2 ho; ⟨o', h1, h2.cls⟩, c.stk⟩
  · obtain ⟨m, hn, h⟩ := X.locs
    exact ⟨m, ns_kp hn fun o ho => keep _ _ X.L.2 ho, fun x a q => let ⟨v, h1, h2⟩ := h x a q; ⟨v, h1, h2.mono e.sub ⟨[], by simp⟩⟩⟩
  · cases q : B'.get? env.locals with
    | none => rfl
    | some o =>
      rcases e.new _ _ q X.L.1 with z | z
      · exact absurd z X.L.2
      · exact absurd X.Llt (Nat.not_lt.mpr z)
theorem ras_vals {ρ' : List Addr} {as xs} (h : RAs W B ρ as xs) {vs} (e : valsOf as = some vs) : RAs W B ρ' as xs := by
  induction as generalizing xs vs with
  | nil => rw [h.nil_inv]; exact .nil
  | cons a as ih =>
    obtain ⟨x, ys, rfl, h1, h2⟩ := h.cons_inv
    rcases a with v | i
    · obtain ⟨ws, q, _⟩ := omap e
      exact .cons (.val h1.val_inv) (ih h2 q)
    · exact nos e
theorem keeper_fn {M' : Model} {h : Heap} {a : Addr} {o : Obj} {fd : FuncData} (ho : h.get? a = some o) (hd : o.data = .func fd) :
    ∃ k, (k = Keeper.frame ∨ k = Keeper.machine ∨ k = Keeper.boundFrame) ∧ Looks M' h (keeperOf (.ref a)) k := by
  obtain ⟨c, d, dt, sl⟩ := o
  simp only at hd
  subst hd
  exact ⟨.frame, .inl rfl, (Looks.ld (part := none) ho).andThen .now⟩
theorem fn_call (hb : BaseOk W g B₀) (H : IhOk W g B₀ ih n) (hA : Room W A' n) (X : Sta W B₀ B ρ env cx σ s) {x nm : Str} {es : List Expr} {as : List A} {p pos : Pos} {σ₁ : S}
    (hr : readRaw g cx σ x = some (.val (.fn nm))) (h1 : exs ih cx σ es = .ok as σ₁) (hf : ∃ f, g.fns nm = some f)
    (k : ∀ a B₁ ρ₁ s₁ xs, W.FA nm = some a → Ext env.locals B ρ s B₁ ρ₁ s₁ → Sta W B₀ B₁ ρ₁ env cx σ₁ s₁ → RAs W B₁ ρ₁ as xs → wpAny (model W.prog W.w) A' (call (.ref a) xs []) Q E s₁) :
    wpAny (model W.prog W.w) A' (eval (.Call (.Name x p) es [] pos) env) Q E s := by
  refine wpAny_Call_NameR (raw_load hb X hr fun y hy q1 q2 => ?_)
  obtain ⟨a, rfl, ha⟩ := hy.val_inv.fn_inv
  obtain ⟨f, hf⟩ := hf
  obtain ⟨a', o, fd, F⟩ := hb.fns nm f hf
  obtain rfl : a' = a := Option.some.inj (F.addr.symm.trans ha)
  refine callW H hA h1 X (fun P hP => ?_) fun B₁ ρ₁ s₁ xs e1 st1 r1 => k a' B₁ ρ₁ s₁ xs ha e1 st1 r1
  exact keeper_fn (o := o) (fd := fd) (hP.elim (fun hP => hP _ _ (X.stays _ _ (X.base _ _ F.get))) fun hP => hP _ _ (X.base _ _ F.get)) F.data
theorem def_call (hb : BaseOk W g B₀) (H : IhOk W g B₀ ih n) (hA : Room W A' n) (X : Sta W B₀ B ρ env cx σ s) {x nm : Str} {es : List Expr} {as : List A} {v : V} {p pos : Pos} {σ₁ σ₂ : S}
    (hr : readRaw g cx σ x = some (.val (.fn nm))) (h1 : exs ih cx σ es = .ok as σ₁) (h2 : ih.call σ₁.mem nm as = .ok v σ₂) (hf : ∃ f, g.fns nm = some f) :
    wpAny (model W.prog W.w) A' (eval (.Call (.Name x p) es [] pos) env) (Good W B₀ env cx B ρ s ⟨σ₁.loc, σ₂.mem⟩ fun B' ρ' y => RA W B' ρ' (.val v) y) No s :=
  fn_call hb H hA X hr h1 hf fun a B₁ ρ₁ s₁ xs ha e1 st1 r1 => wpAny_call (codeAny_mono (H.call _ _ _ _ _ h2 A' B₁ ρ₁ s₁ xs hA st1.c r1 _ ha) fun r s' hc => by
    obtain ⟨y, B', rfl, e2, c2, rv⟩ := hc
    obtain ⟨e3, st3⟩ := st1.after_call e2 c2
    exact ⟨B', ρ₁, e1.trans e3, st3, .val rv⟩)
theorem RM.kp {h h' : Heap} {a : Addr} {m : M} (x : RM W B ρ h a m) (k : ∀ o, h.get? a = some o → ∃ o', h'.get? a = some o' ∧ Kp o o') : RM W B ρ h' a m := by
  have nf : ∀ o, h.get? a = some o → o.cls ≠ .type "frame" → h'.get? a = some o := fun o ho hc => by
    obtain ⟨o', h1, h2⟩ := k o ho
    rcases h2 with rfl | ⟨hf, _⟩
    · exact h1
    · exact absurd hf hc
  have cell : ∀ {v}, h.IsCell a v → h'.IsCell a v := fun c => by
    obtain ⟨o, ho, hd⟩ := c
    obtain ⟨o', h1, h2⟩ := k o ho
    refine ⟨o', h1, ?_⟩
    rcases h2 with rfl | ⟨_, sl, rfl⟩
    · exact hd
    · exact hd
  rcases m with ⟨⟩
  case lst xs =>
    obtain ⟨_, ⟨n, h2⟩, _⟩ := id x
    exact x.at fun o ho => nf o ho (by rw [Option.some.inj (ho.symm.trans h2)]; exact (by decide : Value.type "list" ≠ Value.type "frame"))
  case dct ks vs =>
    obtain ⟨_, _, _, ⟨o', _, _, h1, h2, _⟩, _⟩ := id x
    exact x.at fun o ho => nf o ho (by rw [Option.some.inj (ho.symm.trans h1), h2.1]; decide)
  case itr xs =>
    obtain ⟨_, _, _, _, ⟨o', h1, h2, _⟩, _⟩ := id x
    exact x.at fun o ho => nf o ho (by rw [Option.some.inj (ho.symm.trans h1), h2]; decide)
  case cell c =>
    rcases c with _ | c
    · exact cell x
    · obtain ⟨y, h1, h2⟩ := x; exact ⟨y, cell h1, h2⟩
theorem CSta.bare {mem : List (Option M)} (c : CSta W B₀ B ρ mem s) : CSta W B₀ B [] [] s :=
  ⟨c.stays, c.base, rfl, List.nodup_nil, fun _ h => (by cases h), fun _ _ h => (by simp at h), fun e he => by obtain ⟨h0, F, o, h1, h2, h3, h4, h5, _⟩ := c.stk e he; exact ⟨h0, F, o, h1, h2, h3, h4, h5, List.not_mem_nil⟩⟩
theorem CSta.unbare {mem mem' : List (Option M)} {B' : Heap} {s' : Shared} (c : CSta W B₀ B ρ mem s) (e : Ext s.heap.objs.size B [] s B' [] s') (c2 : CSta W B₀ B' [] mem' s') :
    Ext s.heap.objs.size B ρ s B' ρ s' ∧ CSta W B₀ B' ρ mem s' := by
  refine ⟨⟨e.sub, fun a o h1 h2 => ?_, ⟨[], by simp, by simp⟩, fun b o h1 _ h3 => e.keep b o h1 List.not_mem_nil h3, e.size, e.rest⟩, c2.stays, c2.base, c.len, c.nodup, fun a ha => Nat.lt_of_lt_of_le (c.lt a ha) e.size, fun i m hi => ?_, fun en he => ?_⟩
  · rcases e.new a o h1 h2 with z | z
    · cases z
    · exact .inr z
  · obtain ⟨a, h1, h2, h3⟩ := c.mem i m hi
    have hlt := c.lt a (List.mem_of_getElem? h1)
    refine ⟨a, h1, ?_, ((h3.mono e.sub ⟨[], by simp⟩).kp fun o ho => e.keep a o (Nat.ne_of_lt hlt) List.not_mem_nil ho)⟩
    cases q : B'.get? a with
    | none => rfl
    | some o =>
      rcases e.new a o q h2 with z | z
      · cases z
      · exact absurd hlt (Nat.not_lt.mpr z)
  · obtain ⟨h0, F, o, h1, h2, h3, h4, h5, _⟩ := c2.stk en he
    obtain ⟨_, F', o', g1, _, _, _, _, g6⟩ := c.stk en he
    obtain rfl := Option.some.inj (h1.symm.trans g1)
    exact ⟨h0, F, o, h1, h2, h3, h4, h5, g6⟩
theorem def_call0 (hb : BaseOk W g B₀) (H : IhOk W g B₀ ih n) (hA : Room W A' n) (X : Sta W B₀ B ρ env cx σ s) {x nm : Str} {es : List Expr} {as : List A} {vs : List V} {v : V} {p pos : Pos} {σ₁ σ₂ : S}
    (hr : readRaw g cx σ x = some (.val (.fn nm))) (h1 : exs ih cx σ es = .ok as σ₁) (hv : valsOf as = some vs) (h2 : ih.call [] nm as = .ok v σ₂) (hf : ∃ f, g.fns nm = some f) :
    wpAny (model W.prog W.w) A' (eval (.Call (.Name x p) es [] pos) env) (Good W B₀ env cx B ρ s σ₁ fun B' ρ' y => RA W B' ρ' (.val v) y) No s := by
  refine fn_call hb H hA X hr h1 hf fun a B₁ ρ₁ s₁ xs ha e1 st1 r1 => wpAny_call (codeAny_mono (H.call _ _ _ _ _ h2 A' B₁ [] s₁ xs hA st1.c.bare (ras_vals r1 hv) _ ha) fun r s' hc => ?_)
  obtain ⟨y, B', rfl, e2, c2, rv⟩ := hc
  obtain ⟨e2', c2'⟩ := st1.c.unbare e2 c2
  obtain ⟨e3, st3⟩ := st1.after_call e2' c2'
  exact ⟨B', ρ₁, e1.trans e3, st3, .val rv⟩
theorem bf_keeper {M' : Model} {h : Heap} (b : Bf) : ∃ k, (k = Keeper.frame ∨ k = Keeper.machine ∨ k = Keeper.boundFrame) ∧ Looks M' h (keeperOf (bfVal b)) k := by
  cases b <;> first | exact keeper_builtin | exact keeper_type
theorem bf1_call (hb : BaseOk W g B₀) (H : IhOk W g B₀ ih n) (hA : Room W A' n) (X : Sta W B₀ B ρ env cx σ s) {x : Str} {e : Expr} {b : Bf} {a : A} {p pos : Pos}
    (hr : readRaw g cx σ x = some (.val (.bf b))) (hs : starred e = false) (h1 : ih.ex cx σ e = .ok a σ')
    (k : ∀ B₁ ρ₁ s₁ y, Ext env.locals B ρ s B₁ ρ₁ s₁ → Sta W B₀ B₁ ρ₁ env cx σ' s₁ → RA W B₁ ρ₁ a y → wpAny (model W.prog W.w) A' (call (bfVal b) [y] []) Q E s₁) :
    wpAny (model W.prog W.w) A' (eval (.Call (.Name x p) [e] [] pos) env) Q E s := by
  refine wpAny_Call_NameR (raw_load hb X hr fun y hy q1 q2 => ?_)
  obtain rfl := hy.val_inv.bf_inv
  have g1 : exs ih cx σ [e] = .ok [a] σ' := by simp only [exs, hs, cond_false, h1, Out.bind]
  refine callW H hA g1 X (fun _ _ => bf_keeper b) fun B₁ ρ₁ s₁ xs e1 st1 r1 => ?_
  obtain ⟨y, ys, rfl, ra, rb⟩ := r1.cons_inv
  obtain rfl := rb.nil_inv
  exact k B₁ ρ₁ s₁ y e1 st1 ra
theorem bf_call (hb : BaseOk W g B₀) (H : IhOk W g B₀ ih n) (hA : Room W A' n) (X : Sta W B₀ B ρ env cx σ s) {x : Str} {e : Expr} {b : Bf} {v c : V} {p pos : Pos}
    (hr : readRaw g cx σ x = some (.val (.bf b))) (hs : starred e = false) (h1 : ih.ex cx σ e = .ok (.val v) σ') (h2 : bfun b v = some c) :
    wpAny (model W.prog W.w) A' (eval (.Call (.Name x p) [e] [] pos) env) (Good W B₀ env cx B ρ s σ' fun B' ρ' y => RA W B' ρ' (.val c) y) No s :=
  bf1_call hb H hA X hr hs h1 fun B₁ ρ₁ s₁ y e1 st1 ra => bf_sound hA st1 ra.val_inv h2 fun B' s' y e2 st2 r2 => ⟨B', ρ₁, e1.trans e2, st2, .val r2⟩
theorem iter_call (hb : BaseOk W g B₀) (H : IhOk W g B₀ ih n) (hA : Room W A' n) (X : Sta W B₀ B ρ env cx σ s) {x : Str} {e : Expr} {xs : List V} {p pos : Pos}
    (hr : readRaw g cx σ x = some (.val (.bf .iter))) (hs : starred e = false) (h1 : ih.ex cx σ e = .ok (.val (.list xs)) σ') :
    wpAny (model W.prog W.w) A' (eval (.Call (.Name x p) [e] [] pos) env) (Good W B₀ env cx B ρ s ⟨σ'.loc, σ'.mem ++ [some (.itr xs)]⟩ fun B' ρ' y => RA W B' ρ' (.plc σ'.mem.length) y) No s := by
  refine bf1_call hb H hA X hr hs h1 fun B₁ ρ₁ s₁ y e1 st1 ra => ?_
  obtain ⟨l, its, rfl, hl, hi, _⟩ := ra.val_inv.isList
  refine iter_list (st1.list hl) ?_
  have hne : l ≠ s₁.heap.objs.size := by
    obtain ⟨o, ho, _⟩ := st1.list hl
    exact Nat.ne_of_lt (Heap.lt_size ho)
  obtain ⟨e2, st2⟩ := st1.place (k := s₁.toks) (h' := s₁.heap.push { cls := .type "list_iterator", data := .fields #[.ref l, .int 0 0] }) (a := s₁.heap.objs.size) (m := .itr xs)
    (fun b o q => Heap.get?_push_of_some _ q) (by simp) (Heap.get?_push_size _ rfl) (Nat.le_refl _) ⟨l, 0, its, xs, ⟨_, Heap.get?_push_size _ rfl, rfl, rfl⟩, hl, hi, rfl, hne⟩
  refine ⟨B₁, _, e1.trans e2, st2, .plc ?_⟩
  rw [st1.len]; simp
theorem drop_cons {α : Type} {l : List α} {i : Nat} {x : α} {r : List α} (h : l.drop i = x :: r) : l[i]? = some x ∧ l.drop (i + 1) = r := by
  have h1 : l[i]? = some x := by
    have : (l.drop i)[0]? = some x := by rw [h]; rfl
    rw [List.getElem?_drop] at this
    simpa using this
  refine ⟨h1, ?_⟩
  have : (l.drop i).drop 1 = r := by rw [h]; rfl
  rwa [List.drop_drop] at this
theorem next_call (hb : BaseOk W g B₀) (H : IhOk W g B₀ ih n) (hA : Room W A' n) (X : Sta W B₀ B ρ env cx σ s) {x : Str} {e : Expr} {v : V} {xs : List V} {i : Nat} {p pos : Pos}
    (hr : readRaw g cx σ x = some (.val (.bf .next))) (hs : starred e = false) (h1 : ih.ex cx σ e = .ok (.plc i) σ') (hm : σ'.mem[i]? = some (some (.itr (v :: xs)))) :
    wpAny (model W.prog W.w) A' (eval (.Call (.Name x p) [e] [] pos) env) (Good W B₀ env cx B ρ s ⟨σ'.loc, σ'.mem.set i (some (.itr xs))⟩ fun B' ρ' y => RA W B' ρ' (.val v) y) No s := by
  refine bf1_call hb H hA X hr hs h1 fun B₁ ρ₁ s₁ y e1 st1 ra => ?_
  obtain ⟨a, rfl, ra'⟩ := ra.plc_inv
  obtain ⟨a', h2, h3, ax, ps, items, vs, hit, hl, hvs, hd, hne⟩ := st1.mem i _ hm
  obtain rfl : a = a' := Option.some.inj (ra'.symm.trans h2)
  obtain ⟨d1, d2⟩ := drop_cons hd
  obtain ⟨w, hw, hrw⟩ := hvs.get d1
  refine next_item hit (st1.list hl) (x := w) (by simpa using hw) fun h' hit' hs' => ?_
  obtain ⟨e2, st2⟩ := st1.turn (k := s₁.toks) (h' := h') (m := some (.itr xs)) h2 h3 (fun b o hb q => (hs'.2 b hb).trans q) (Nat.le_of_eq hs'.1.symm) fun m' q => Option.some.inj q ▸ ⟨ax, ps + 1, items, vs, hit', hl, hvs, d2, hne⟩
  exact ⟨B₁, ρ₁, e1.trans e2, st2, .val hrw⟩
theorem len_call (hb : BaseOk W g B₀) (X : Sta W B₀ B ρ env cx σ s) {x : Str} {e : Expr} {q : Nat × List V} {p pos : Pos}
    (hr : readRaw g cx σ x = some (.val (.bf .len))) (hs : starred e = false) (hp : lstAt g cx σ e = some q) (hz : Nat.ble q.2.length lim = true) :
    wpAny (model W.prog W.w) A' (eval (.Call (.Name x p) [e] [] pos) env) (Good W B₀ env cx B ρ s σ fun B' ρ' y => RA W B' ρ' (.val (.int q.2.length)) y) No s := by
  refine wpAny_Call_NameR (raw_load hb X hr fun y hy q1 q2 => ?_)
  obtain rfl := hy.val_inv.bf_inv
  obtain ⟨y, hp⟩ := ls_r hp
  refine callWith_builtin (by rw [starEach_cons hs]; rfl) ?_
  rw [starEach_cons hs]
  refine evalArgs_plain (spliced_cons (place_load hb X hp fun a a1 a2 a3 a4 => spliced_nil ?_))
  obtain ⟨its, hl, hi⟩ := a3
  have e1 : q.2.length = its.size := by rw [hi.length]; simp
  have : q.2.length ≤ 1100000 := Nat.le_of_ble_eq_true hz
  refine call_len_list hl.isList (by rw [← e1]; omega) ?_
  rw [← e1]
  exact ⟨B, ρ, Ext.grow (Sub.refl _) (Nat.le_refl _), X.grow (Sub.refl _) (Nat.le_refl _), .val .int⟩
end
end

section
open PySem PySem.Calls PyProof.Rows PySem.W
set_option backward.match.sparseCases false
set_option maxRecDepth 100000
set_option linter.unusedVariables false
theorem ints_of : ∀ {ws : List Value}, (∀ x ∈ ws, ∃ t, x = .int (ival x) t) → IntsAre ws (ws.map ival)
  | [], _ => .nil
  | x :: r, h => by
    obtain ⟨t, ht⟩ := h x (List.mem_cons_self ..)
    have hr := ints_of fun y hy => h y (List.mem_cons_of_mem _ hy)
    rw [List.map_cons, ht]
    exact .cons _ t hr
section
variable {prog : Program} {w : World} {A : Around} {E : Value → Shared → Prop} {s : Shared} {S : Addr} {σ : List Int}
theorem sorted_setI (hh : A.handled = none) (hS : SetI prog w (ledOf w) s.heap S σ) (hσ : σ.length < 64) {Q : Value → Shared → Prop}
    (h : ∀ out ns' h' tk d a e, IntsAre (Array.toList out) ns' → ns'.Perm σ → ns'.Pairwise (· ≤ ·) → (∀ b o, s.heap.get? b = some o → h'.get? b = some o) → s.heap.objs.size ≤ h'.objs.size → s.heap.objs.size ≤ a → h'.get? a = some (seqObj "list" out e) → Q (.ref a) { s with heap := h', toks := tk, drawn := d }) :
    wpAny (model prog w) A (call (.builtin "sorted") [.ref S]) Q E s := by
  refine Calls.call_function_entry kind_sorted plain_sorted entry_sorted (args_sorted1 _) ?_
  unfold Builtin.«sorted»
  refine wpAny_bind (m := checkCount "sorted" 1 1 _) (wpAny_pure ?_)
  refine wpAny_bind (collect_set (A := A.in1) hh hS (Nat.le_of_lt hσ) fun ws h₁ tk d hp hi k z => ?_)
  refine wpAny_bind (wpAny_newList ?_ (by
    have := hp.length_eq
    rw [List.length_map] at this
    rw [this, sizeLine_eq]; omega))
  have hI := ints_of hi
  have hoL : (h₁.push (seqObj "list" ws.toArray 0)).get? h₁.objs.size = some (seqObj "list" ws.toArray 0) := Heap.get?_push_size _ rfl
  have h64 : ws.length < 64 := by
    have := hp.length_eq
    rw [List.length_map] at this
    rw [this]; exact hσ
  show wpAny _ _ _ _ _ { s with heap := h₁.push (seqObj "list" ws.toArray 0), toks := tk, drawn := d }
  refine wpAny_bind (wpAny_holding (wpAny_call_entry slot_list_sort ⟨_, hoL, rfl⟩ entry_list_sort (list_sort_tree hoL hI h64 fun out ns' a1 a2 a3 => ⟨_, rfl, ?_⟩) (args_list_sort _)))
  obtain ⟨e, he⟩ := sortedHeap_at (vs := ws) (out := out) hoL
  have z1 : (h₁.push (seqObj "list" ws.toArray 0)).objs.size = h₁.objs.size + 1 := Heap.size_push ..
  refine wpAny_pure ⟨_, rfl, h out ns' _ tk d h₁.objs.size e a1 (a2.trans hp) a3 (fun b o q => ?_) (Nat.le_trans z (Nat.le_of_lt (Heap.lt_size he))) z he⟩
  have hb := Heap.lt_size (k b o q)
  rw [sortedHeap_old (Nat.ne_of_lt hb) (by rw [z1]; exact Nat.lt_succ_of_lt hb)]
  exact Heap.get?_push_of_some _ (k b o q)
end
section
variable {W : Wd} {g : Gl} {B₀ B : Heap} {ρ : List Addr} {env : Env} {cx : Cx} {σ σ' : S} {s : Shared} {A' : Around} {n : Nat} {ih : Ih} {E : Value → Shared → Prop} {Q : Value → Shared → Prop}
theorem bf1_raw (hb : BaseOk W g B₀) (X : Sta W B₀ B ρ env cx σ s) {x : Str} {e : Expr} {b : Bf} {p pos : Pos} (hr : readRaw g cx σ x = some (.val (.bf b))) (hs : starred e = false)
    (k : wpAny (model W.prog W.w) A' (eval e env) (fun y s₁ => Sub B s₁.heap ∧ wpAny (model W.prog W.w) A' (call (bfVal b) [y] []) Q E s₁) E s) :
    wpAny (model W.prog W.w) A' (eval (.Call (.Name x p) [e] [] pos) env) Q E s := by
  refine wpAny_Call_NameR (raw_load hb X hr fun y hy q1 q2 => ?_)
  obtain rfl := hy.val_inv.bf_inv
  have hp : (backTo pos (starEach [e] env)).any (·.1) = false := by rw [starEach_cons hs]; rfl
  refine callWith_of (P := fun h' => Sub B h') (by rw [hp]; rfl) (fun h' hB => bf_keeper b) ?_
  rw [starEach_cons hs]
  refine evalArgs_plain (spliced_cons (wpAny_mono k (fun y s₁ hk => ?_) fun _ _ e => e))
  exact spliced_nil hk
theorem foldI_nodup : ∀ (is σ : List Int), σ.length + is.length < 64 → (is.foldl addI σ).length < 64
  | [], σ, h => by simpa using h
  | k :: r, σ, h => foldI_nodup r (addI σ k) (by have := addI_len σ k; rw [List.length_cons] at h; omega)
theorem sorted_set_call (hb : BaseOk W g B₀) (H : IhOk W g B₀ ih n) (hA : Room W A' n) (X : Sta W B₀ B ρ env cx σ s) {x x' : Str} {e : Expr} {v c : V} {p p' pos pos' : Pos} (hr : readRaw g cx σ x = some (.val (.bf .sorted))) (hr' : readRaw g cx σ x' = some (.val (.bf .set))) (hs : starred e = false)
    (h1 : ih.ex cx σ e = .ok (.val v) σ') (h2 : setV v = some c) :
    wpAny (model W.prog W.w) A' (eval (.Call (.Name x p) [.Call (.Name x' p') [e] [] pos'] [] pos) env) (Good W B₀ env cx B ρ s σ' fun B' ρ' y => RA W B' ρ' (.val c) y) No s := by
  obtain ⟨xs, rfl, h3⟩ := onL_inv h2
  rcases his : intsOf xs with _ | is <;> rw [his] at h3
  · exact nos h3
  obtain ⟨hz, rfl⟩ := conds h3
  have hlt : is.length < 64 := by simpa using hz
  refine bf1_raw hb X hr rfl (bf1_call hb H hA X hr' hs h1 fun B₁ ρ₁ s₁ y e1 st1 ra => ?_)
  obtain ⟨l, its, rfl, hl, hi, _⟩ := ra.val_inv.isList
  refine with_size (call_set_I hA.1 (st1.list hl) (hi.ints his) (by unfold scanBound; omega) fun h₁ tk hS k hsz => ⟨fun b o q => k b o (st1.stays b o (e1.sub b o q)), ?_⟩)
  refine sorted_setI (s := { s₁ with heap := h₁, toks := tk }) hA.1 hS (foldI_nodup is [] (by simpa using hlt)) fun out ns' h₂ tk₂ d a e a1 a2 a3 k2 z2 za ho => ?_
  have sub : Sub s₁.heap h₂ := fun b o q => k2 b o (k b o q)
  obtain ⟨B₂, e2, st2, hB⟩ := st1.made (k := tk₂) sub (Nat.le_trans hsz z2) ho (Nat.le_trans hsz za)
  refine ⟨B₂, ρ₁, e1.trans (e2.drawn d), st2.drawn d, .val (RV.newList hB ?_)⟩
  rw [← sortI_uniq a2 a3]
  exact RVs.of_ints a1
end
end

section
open PySem PySem.Calls PyProof.Rows PySem.W
set_option backward.match.sparseCases false
set_option maxRecDepth 100000
set_option linter.unusedVariables false
noncomputable def isNT : Expr → Bool
  | .Name .. => true
  | .Tuple .. => true
  | _ => false
theorem isNT_inv {t : Expr} (h : isNT t = true) : (∃ a b, t = .Name a b) ∨ ∃ a b c, t = .Tuple a b c := by
  rcases t with ⟨⟩ <;> first | exact ff_tt h | exact .inl ⟨_, _, rfl⟩ | exact .inr ⟨_, _, _, rfl⟩
theorem isTup_inv {t : Expr} (h : isTup t = true) : ∃ a b c, t = .Tuple a b c := by
  rcases t with ⟨⟩ <;> first | exact ff_tt h | exact ⟨_, _, _, rfl⟩
noncomputable def Keep (wr : List Addr) (h h' : Heap) : Prop := ∀ b o, b ∉ wr → h.get? b = some o → h'.get? b = some o
structure Draw (W : Wd) (A : Around) (B : Heap) (t : Expr) (I : Addr) (wr : List Addr) (xs : List V) (St : Nat → Heap → Prop) : Prop where
  frame : ∀ i h h', St i h → Sub B h → Sub B h' → (∀ b ∈ wr, ∀ o, h.get? b = some o → h'.get? b = some o) → St i h'
  cls : ∀ i h, St i h → Sub B h → ∀ b ∈ wr, ∀ o, h.get? b = some o → o.cls ≠ .type "frame"
  item : ∀ i v (s : Shared) (K : Value → Shared → Prop) (E : Value → Shared → Prop), isNT t = true → xs[i]? = some v → Sub B s.heap → St i s.heap →
    (∀ x h' tk, St (i + 1) h' → Keep wr s.heap h' → (RV W B v x ∨ ∃ T items vs, x = .ref T ∧ v = .tup vs ∧ s.heap.objs.size ≤ T ∧ T ∉ wr ∧ h'.IsTuple T items ∧ RVs W B vs items.toList) → K x { s with heap := h', toks := tk }) →
    wpAny (model W.prog W.w) A (pyNext (.ref I)) (fun r s₁ => ∃ x, r = some x ∧ ∀ E', wpAny (model W.prog W.w) A (letOwnedTupleGo t (.ref I) x) (fun _ s₂ => K x s₂) E' s₁) E s
  done : ∀ (s : Shared) (Q : Option Value → Shared → Prop) (E : Value → Shared → Prop), St xs.length s.heap →
    (∀ h' tk, Keep wr s.heap h' → Q none { s with heap := h', toks := tk }) → wpAny (model W.prog W.w) A (pyNext (.ref I)) Q E s
  self : ∀ i (s : Shared) (Q : Value → Shared → Prop) (E : Value → Shared → Prop), St i s.heap → Q (.ref I) s → wpAny (model W.prog W.w) A (pyIter (.ref I)) Q E s
section
variable {W : Wd} {A : Around} {B : Heap} {t : Expr} {I : Addr}
theorem Draw.ofWalks {fp : List Addr} {n : Nat} {P : Nat → Value → Prop} {St : Nat → Heap → Prop} {xs : List V} (D : Walks W.prog W.w A I fp [I] n P St) (hn : xs.length = n)
    (hfp : ∀ b ∈ fp, b = I ∨ ∃ o, B.get? b = some o) (hP : ∀ i v x, xs[i]? = some v → P i x → RV W B v x)
    (hcl : ∀ i h, St i h → ∀ o, h.get? I = some o → o.cls ≠ .type "frame")
    (hgo : ∀ i x (s : Shared) (Q : Unit → Shared → Prop) (E' : Value → Shared → Prop), isNT t = true → P i x → St (i + 1) s.heap → Q () s → wpAny (model W.prog W.w) A (letOwnedTupleGo t (.ref I) x) Q E' s) :
    Draw W A B t I [I] xs St where
  frame := fun i h h' st b1 b2 hk => D.frame i h h' st fun b hb o ho => by
    rcases hfp b hb with e | ⟨o', e⟩
    · exact hk b (by simp [e]) o ho
    · rw [Option.some.inj (ho.symm.trans (b1 _ _ e))]
      exact b2 _ _ e
  cls := fun i h st _ b hb o ho => by rw [List.mem_singleton.mp hb] at ho; exact hcl i h st o ho
  item := fun i v s K E ht hx _ st hK => by
    have hlt : i < n := by rw [← hn]; exact (List.getElem?_eq_some_iff.mp hx).1
    refine D.item i s _ _ hlt st fun x h' tk hp st' hk => ⟨x, rfl, fun E' => hgo i x _ _ _ ht hp st' (hK x h' tk st' hk (.inl (hP i v x hx hp)))⟩
  done := fun s Q E st hQ => D.done s Q E (hn ▸ st) hQ
  self := D.self
theorem go_name {t : Expr} {x : Value} {s : Shared} {Q : Unit → Shared → Prop} {E' : Value → Shared → Prop} (ht : isNT t = true) (h : Q () s) (hx : ∀ a, x ≠ .ref a) :
    wpAny (model W.prog W.w) A (letOwnedTupleGo t (.ref I) x) Q E' s := by
  have : letOwnedTupleGo t (.ref I) x = pure () := by
    rcases isNT_inv ht with ⟨a, b, rfl⟩ | ⟨a, b, c, rfl⟩
    · rfl
    · rcases x with ⟨⟩ <;> first | rfl | exact absurd rfl (hx _)
  rw [this]; exact wpAny_pure h
theorem Draw.list {l : Addr} {items : Array Value} {xs : List V} (hh : A.handled = none) (hl : B.IsList l items) (hI : B.get? I = none) (hx : RVs W B xs items.toList) :
    Draw W A B t I [I] xs (fun i h => h.IsListIter I l i ∧ h.IsList l items) := by
  have hlI : ∃ o, B.get? l = some o := by obtain ⟨o, ho, _⟩ := hl; exact ⟨o, ho⟩
  have hne : l ≠ I := fun e => by
    obtain ⟨o, ho⟩ := hlI
    exact nos (hI.symm.trans (e ▸ ho))
  refine Draw.ofWalks (Walks.list hh I l hne items) (by rw [hx.length]; simp) (fun b hb => ?_) (fun i v x h1 h2 => ?_) (fun i h st o ho => ?_) fun i x s Q E' ht _ st hQ => ?_
  · rcases List.mem_cons.mp hb with rfl | hb
    · exact .inl rfl
    · rw [List.mem_singleton.mp hb]; exact .inr hlI
  · obtain ⟨y, hy, hr⟩ := hx.get h1
    have e : items[i]? = some y := by simpa using hy
    rw [show x = y from Option.some.inj (h2.symm.trans e)]; exact hr
  · obtain ⟨o', ho', hc, _⟩ := st.1
    rw [Option.some.inj (ho.symm.trans ho'), hc]; decide
  · rcases isNT_inv ht with ⟨a, b, rfl⟩ | ⟨a, b, c, rfl⟩
    · exact wpAny_pure hQ
    · rcases x with ⟨⟩
      case ref T => exact wpAny_letOwnedTupleGo_listiter st.1 hQ
      all_goals exact wpAny_pure hQ
theorem rangeV_get {n : Nat} {i : Nat} {v : V} (h : (rangeV (n : Int))[i]? = some v) : v = .int (i : Int) := by
  unfold rangeV at h
  rw [List.getElem?_map] at h
  obtain ⟨j, q, rfl⟩ := omap h
  obtain ⟨h1, h2⟩ := List.getElem?_eq_some_iff.mp q
  rw [List.getElem_range] at h2
  rw [← h2]; rfl
theorem Draw.range {n : Nat} (hh : A.handled = none) : Draw W A B t I [I] (rangeV (n : Int)) (fun i h => IsRangeIter h I (0 + (i : Nat) * 1) ((n : Int) - (i : Nat)) 1) := by
  refine Draw.ofWalks (Walks.range hh I 0 1 n) (by unfold rangeV; simp) (fun b hb => .inl (by simpa using hb)) (fun i v x h1 ht => ?_) (fun i h st o ho => by rw [Option.some.inj (ho.symm.trans (st : h.get? I = _))]; show Value.type "range_iterator" ≠ Value.type "frame"; decide) fun i x s Q E' ht hp _ hQ => ?_
  · obtain ⟨t, h2⟩ := ht
    rw [rangeV_get h1, h2]
    have : (0 + (i : Int) * 1) = (i : Int) := by omega
    rw [this]; exact .int
  · obtain ⟨t', rfl⟩ := hp
    exact go_name ht hQ fun a e => nomatch e
theorem signs_get {x : Str} {i : Nat} {v : V} (h : (signsOf x)[i]? = some v) : ∃ c, x.cps[i]? = some c ∧ v = .str ⟨#[c]⟩ := by
  unfold signsOf at h
  rw [List.getElem?_map] at h
  obtain ⟨c, q, rfl⟩ := omap h
  exact ⟨c, by simpa using q, rfl⟩
theorem signs_length (x : Str) : (signsOf x).length = x.cps.size := by unfold signsOf; simp
theorem Draw.str {x : Str} {St : Nat → Heap → Prop} (D : Walks W.prog W.w A I [I] [I] x.cps.size (SignAt x) St) (hcl : ∀ i h, St i h → ∀ o, h.get? I = some o → o.cls ≠ .type "frame") : Draw W A B t I [I] (signsOf x) St := by
  refine Draw.ofWalks D (signs_length x) (fun b hb => .inl (by simpa using hb)) (fun i v y h1 hp => ?_) hcl fun i y s Q E' ht hp _ hQ => ?_
  · obtain ⟨c, u, h2, h3⟩ := hp
    obtain ⟨c', h4, h5⟩ := signs_get h1
    obtain rfl := Option.some.inj (h2.symm.trans h4)
    rw [h3, h5]; exact .str
  · obtain ⟨c, u, _, rfl⟩ := hp
    exact go_name ht hQ fun a e => nomatch e
theorem zip_get {xs : List V} {i : Nat} {v : V} (h : (xs.zipIdx.map fun p => V.tup [.int (Int.ofNat p.2), p.1])[i]? = some v) : ∃ y, xs[i]? = some y ∧ v = .tup [.int (Int.ofNat i), y] := by
  rw [List.getElem?_map] at h
  obtain ⟨p, q, rfl⟩ := omap h
  rw [List.getElem?_zipIdx] at q
  obtain ⟨y, z, rfl⟩ := omap q
  exact ⟨y, z, by simp⟩
theorem Draw.enum {it : Addr} {fp : List Addr} {n : Nat} {P : Nat → Value → Prop} {St : Nat → Heap → Prop} {xs : List V} (D : Draws W.prog W.w A.in1 it fp n P St) (htu : isTup t = true) (hei : I ≠ it) (hef : I ∉ fp) (hif : it ∈ fp)
    (hn : xs.length = n) (hfp : ∀ b ∈ fp, b = it ∨ ∃ o, B.get? b = some o) (hP : ∀ i v x, xs[i]? = some v → P i x → RV W B v x)
    (hcl : ∀ i h, St i h → ∀ o, h.get? it = some o → o.cls ≠ .type "frame") :
    Draw W A B t I [I, it] (xs.zipIdx.map fun p => V.tup [.int (Int.ofNat p.2), p.1]) (fun i h => (∃ old, IsEnum h I it i old) ∧ St i h) := by
  have T := WalksT.enumerateD D I hei hef hif
  refine ⟨fun i h h' st b1 b2 hk => T.frame i h h' st fun b hb o ho => ?_, fun i h st _ b hb o ho => ?_, fun i v s K E ht hx b1 st hK => ?_, fun s Q E st hQ => T.done s Q E ?_ hQ, T.self⟩
  · rcases List.mem_cons.mp hb with e | hb
    · exact hk b (by simp [e]) o ho
    · rcases hfp b hb with e | ⟨o', e⟩
      · exact hk b (by simp [e]) o ho
      · rw [Option.some.inj (ho.symm.trans (b1 _ _ e))]
        exact b2 _ _ e
  · rcases List.mem_cons.mp hb with e | e
    · obtain ⟨old, he⟩ := st.1
      rw [e] at ho
      rw [Option.some.inj (ho.symm.trans (he : h.get? I = _))]
      show Value.type "enumerate" ≠ Value.type "frame"; decide
    · rw [List.mem_singleton.mp e] at ho
      exact hcl i h st.2 o ho
  · obtain ⟨y0, q', rfl⟩ := zip_get hx
    have hlt : i < n := by rw [← hn]; exact (List.getElem?_eq_some_iff.mp q').1
    refine T.item i s _ _ hlt st fun Ta vals h' tk hpv hTa hT hm hk => ⟨.ref Ta, rfl, fun E' => ?_⟩
    obtain ⟨tt, y, hp, rfl⟩ := hpv
    have hr : RVs W B [.int (Int.ofNat i), y0] [.int i tt, y] := .cons .int (.cons (hP i _ _ q' hp) .nil)
    have hap := T.apart i Ta h' hm
    obtain ⟨a, b, c, rfl⟩ := isTup_inv htu
    exact T.go a b c i Ta { s with heap := h', toks := tk } _ E' hm fun h'' st' hk' =>
      hK _ h'' tk ⟨st'.1, st'.2⟩ (fun b o hb e => hk' b o hb (hk b o hb e)) (.inr ⟨Ta, _, _, rfl, rfl, hTa, hap, hT.at fun o e => hk' _ o hap e, hr⟩)
  · have : (xs.zipIdx.map fun p => V.tup [.int (Int.ofNat p.2), p.1]).length = n := by simp [hn]
    rw [← this]; exact st
end
end

section
open PySem PySem.Calls PyProof.Rows PySem.W
set_option backward.match.sparseCases false
set_option maxRecDepth 100000
set_option linter.unusedVariables false
inductive Drawn (W : Wd) (B₀ : Heap) (env : Env) (cx : Cx) (B : Heap) (ρ : List Addr) (s : Shared) (t : Expr) (σ' : S) (xs : List V) (r : Value) (s₂ : Shared) : Prop
  | mk (B₁ : Heap) (ρ₁ : List Addr) (s₀ : Shared) (I : Addr) (wr : List Addr) (St : Nat → Heap → Prop) (h₂ : Heap) (tk : Nat) (h1 : r = .ref I) (h2 : Ext env.locals B ρ s B₁ ρ₁ s₀) (h3 : Sta W B₀ B₁ ρ₁ env cx σ' s₀) (h4 : s₂ = { s₀ with heap := h₂, toks := tk })
    (h5 : Sub s₀.heap h₂) (h6 : s₀.heap.objs.size ≤ h₂.objs.size) (h7 : ∀ b ∈ wr, s₀.heap.objs.size ≤ b ∧ b < h₂.objs.size) (h8 : ∀ A : Around, A.handled = none → Draw W A B₁ t I wr xs St) (h9 : St 0 h₂)
section
variable {W : Wd} {g : Gl} {B₀ B : Heap} {ρ : List Addr} {env : Env} {cx : Cx} {σ σ' : S} {s : Shared} {A' : Around} {n : Nat} {ih : Ih} {E : Value → Shared → Prop} {Q : Value → Shared → Prop}
theorem stale {B₁ : Heap} {h : Heap} (hs : Sub B₁ h) : B₁.get? h.objs.size = none := by
  cases q : B₁.get? h.objs.size with
  | none => rfl
  | some o => exact absurd (Heap.lt_size (hs _ _ q)) (Nat.lt_irrefl _)
theorem drawn_new {B₁ : Heap} {ρ₁ : List Addr} {s₁ : Shared} {t : Expr} {xs : List V} {o : Obj} {St : Nat → Heap → Prop} (e1 : Ext env.locals B ρ s B₁ ρ₁ s₁) (st1 : Sta W B₀ B₁ ρ₁ env cx σ' s₁)
    (D : ∀ A : Around, A.handled = none → Draw W A B₁ t s₁.heap.objs.size [s₁.heap.objs.size] xs St) (h : St 0 (s₁.heap.push o)) :
    Drawn W B₀ env cx B ρ s t σ' xs (.ref s₁.heap.objs.size) { s₁ with heap := s₁.heap.push o } :=
  ⟨B₁, ρ₁, s₁, s₁.heap.objs.size, [s₁.heap.objs.size], St, _, s₁.toks, rfl, e1, st1, rfl, fun b o q => Heap.get?_push_of_some _ q, by simp, (fun b hb => by rw [List.mem_singleton.mp hb]; exact ⟨Nat.le_refl _, by simp⟩), D, h⟩
theorem str_cls {I : Addr} {z : Str} {tz : Tok} {T : String} {i : Nat} {h : Heap} (st : h.IsStrIter I T z tz i) (hT : T ≠ "frame") {o : Obj} (ho : h.get? I = some o) : o.cls ≠ .type "frame" := by
  obtain ⟨o', ho', hc, _⟩ := st
  rw [Option.some.inj (ho.symm.trans ho'), hc]
  intro e; injection e with e; exact hT e
theorem items_str {B₁ : Heap} {ρ₁ : List Addr} {s₁ : Shared} {z : Str} {tz : Tok} {t : Expr} (e1 : Ext env.locals B ρ s B₁ ρ₁ s₁) (st1 : Sta W B₀ B₁ ρ₁ env cx σ' s₁) :
    wpAny (model W.prog W.w) A' (pyIter (.str z tz)) (Drawn W B₀ env cx B ρ s t σ' (signsOf z)) E s₁ := by
  rcases ha : z.cps.all (· < 128) with _ | _
  · exact wpAny_pyIter_wide ha (drawn_new e1 st1 (fun A hh => Draw.str (Walks.strWide hh _ z tz) fun i h st o ho => str_cls st (by decide) ho) ⟨_, Heap.get?_push_size _ rfl, rfl, rfl⟩)
  · exact wpAny_pyIter_ascii ha (drawn_new e1 st1 (fun A hh => Draw.str (Walks.strAscii hh _ z tz) fun i h st o ho => str_cls st (by decide) ho) ⟨_, Heap.get?_push_size _ rfl, rfl, rfl⟩)
theorem items_range {B₁ : Heap} {ρ₁ : List Addr} {s₁ : Shared} {k : Nat} {x : Value} {t : Expr} (e1 : Ext env.locals B ρ s B₁ ρ₁ s₁) (st1 : Sta W B₀ B₁ ρ₁ env cx σ' s₁) (r : RV W B₁ (.range (Int.ofNat k)) x) (hk : k ≤ 1000) :
    wpAny (model W.prog W.w) A' (pyIter x) (Drawn W B₀ env cx B ρ s t σ' (rangeV (Int.ofNat k))) E s₁ := by
  obtain ⟨a, t1, t2, t3, rfl, hr⟩ := r.range_inv
  have hsz : Builtin.Range.rangeSize 0 (Int.ofNat k) 1 = (k : Int) := by
    show Builtin.Range.rangeSize 0 (k : Int) 1 = (k : Int)
    unfold Builtin.Range.rangeSize; simp; omega
  refine wpAny_pyIter_range (st1.stays _ _ hr) (by unfold Builtin.Range.small; simp only [hsz]; simp [Builtin.Range.rangeFitsLong]; omega) (drawn_new e1 st1 (fun A hh => Draw.range hh) ?_)
  have := Heap.get?_push_size s₁.heap (o := { cls := .type "range_iterator", data := .fields #[rawInt 0, rawInt (Builtin.Range.rangeSize 0 (Int.ofNat k) 1), rawInt 1] }) rfl
  rw [hsz] at this ⊢
  show IsRangeIter _ _ _ _ _
  unfold IsRangeIter
  simpa using this
theorem items_sound {B₁ : Heap} {ρ₁ : List Addr} {s₁ : Shared} {v : V} {xs : List V} {x : Value} {t : Expr} (e1 : Ext env.locals B ρ s B₁ ρ₁ s₁) (st1 : Sta W B₀ B₁ ρ₁ env cx σ' s₁)
    (r : RV W B₁ v x) (h : itemsOf v = some xs) : wpAny (model W.prog W.w) A' (pyIter x) (Drawn W B₀ env cx B ρ s t σ' xs) E s₁ := by
  rcases v with ⟨⟩
  case list ys =>
    obtain rfl := Option.some.inj h
    obtain ⟨l, its, rfl, hl, hi, _⟩ := r.isList
    refine wpAny_pyIter_list (st1.list hl) (drawn_new e1 st1 (fun A hh => Draw.list hh hl (stale st1.stays) hi) ⟨⟨_, Heap.get?_push_size _ rfl, rfl, rfl⟩, ?_⟩)
    obtain ⟨o, ho, r⟩ := st1.list hl
    exact ⟨o, Heap.get?_push_of_some _ ho, r⟩
  case str z =>
    obtain rfl := Option.some.inj h
    obtain ⟨tz, rfl⟩ := r.str_inv
    exact items_str e1 st1
  case range n =>
    obtain ⟨k, rfl, h1⟩ := natOf_inv h
    obtain ⟨hz, rfl⟩ := conds h1
    exact items_range e1 st1 r (Nat.le_of_ble_eq_true hz)
  all_goals exact nos h
theorem oany {α : Type} {o : Option α} {p : α → Bool} (h : o.any p = true) : ∃ a, o = some a ∧ p a = true := by cases o; exact ff_tt h; exact ⟨_, rfl, h⟩
theorem argOf_inv {p : Bf → Bool} {e e₀ : Expr} (h : argOf g cx p σ e = some e₀) : ∃ x q r b, e = .Call (.Name x q) [e₀] [] r ∧ readRaw g cx σ x = some (.val (.bf b)) ∧ p b = true := by
  rcases e with ⟨⟩ <;> first | exact nos h | skip
  rename_i f es ks q
  obtain ⟨x, h1, h2⟩ := obind h
  obtain ⟨h3, h4⟩ := condn h2
  have h3 := Bool.and_eq_true_iff.mp h3
  obtain ⟨p, rfl⟩ := nameE_inv h1
  obtain rfl := isEmpty_inv h3.2
  obtain rfl := one_inv h4
  obtain ⟨b, h5, h6⟩ := oany h3.1
  obtain ⟨v, h7, h8⟩ := obind h5
  obtain ⟨a, h9, g1⟩ := obind h7
  obtain rfl := valOf_inv g1
  obtain rfl := bfOf_inv h8
  exact ⟨x, p, q, b, rfl, h9, h6⟩
theorem enum_inv {e e₀ : Expr} (h : enumArg g cx σ e = some e₀) : ∃ x p q, e = .Call (.Name x p) [e₀] [] q ∧ readRaw g cx σ x = some (.val (.bf .enumerate)) := by
  obtain ⟨x, p, q, b, rfl, h1, h2⟩ := argOf_inv h
  refine ⟨x, p, q, rfl, ?_⟩
  rcases b with ⟨⟩ <;> first | exact h1 | exact ff_tt h2
theorem set_inv {e e₀ : Expr} (h : argOf g cx isSetB σ e = some e₀) : ∃ x p q, e = .Call (.Name x p) [e₀] [] q ∧ readRaw g cx σ x = some (.val (.bf .set)) := by
  obtain ⟨x, p, q, b, rfl, h1, h2⟩ := argOf_inv h
  refine ⟨x, p, q, rfl, ?_⟩
  rcases b with ⟨⟩ <;> first | exact h1 | exact ff_tt h2
theorem enum_sound (hb : BaseOk W g B₀) (H : IhOk W g B₀ ih n) (hA : Room W A' n) (X : Sta W B₀ B ρ env cx σ s) {t e : Expr} {x : Str} {p q : Pos} {ys : List V} (hr : readRaw g cx σ x = some (.val (.bf .enumerate))) (htu : isTup t = true) (hs : starred e = false)
    (h1 : ih.ex cx σ e = .ok (.val (.list ys)) σ') :
    wpAny (model W.prog W.w) A' (eval (.Call (.Name x p) [e] [] q) env) (fun xv s₁ => wpAny (model W.prog W.w) A' (pyIter xv) (Drawn W B₀ env cx B ρ s t σ' ((ys.zipIdx).map fun p => V.tup [.int (Int.ofNat p.2), p.1])) E s₁) E s := by
  refine bf1_call hb H hA X hr hs h1 fun B₁ ρ₁ s₁ y e1 st1 ra => ?_
  obtain ⟨l, its, rfl, hl, hi, _⟩ := ra.val_inv.isList
  obtain ⟨o, ho, r⟩ := st1.list hl
  refine call_enumerate_list ⟨o, ho, r⟩ fun h' he hit hsz hk => ?_
  refine wpAny_pyIter_enum he ?_
  have hne : l ≠ s₁.heap.objs.size := Nat.ne_of_lt (Heap.lt_size ho)
  have hne2 : l ≠ s₁.heap.objs.size + 1 := Nat.ne_of_lt (Nat.lt_succ_of_lt (Heap.lt_size ho))
  refine ⟨B₁, ρ₁, s₁, s₁.heap.objs.size + 1, [s₁.heap.objs.size + 1, s₁.heap.objs.size], _, h', s₁.toks, rfl, e1, st1, rfl, hk, by omega, (fun b hb => ?_),
    (fun A hh => Draw.enum (Draws.list (A := A.in1) hh _ l hne its) htu (Nat.succ_ne_self _) (by simp [Ne.symm hne2]) (by simp) (by rw [hi.length]; simp) (fun b hb => ?_) (fun i v x h1 h2 => ?_) (fun i h st o ho => ?_)), ⟨⟨_, he⟩, hit, o, hk _ _ ho, r⟩⟩
  · rcases List.mem_cons.mp hb with rfl | hb
    · exact ⟨Nat.le_succ _, by rw [hsz]; exact Nat.lt_succ_self _⟩
    · rw [List.mem_singleton.mp hb]; exact ⟨Nat.le_refl _, by rw [hsz]; exact Nat.lt_succ_of_lt (Nat.lt_succ_self _)⟩
  · rcases List.mem_cons.mp hb with rfl | hb
    · exact .inl rfl
    · rw [List.mem_singleton.mp hb]; obtain ⟨o, ho, _⟩ := hl; exact .inr ⟨o, ho⟩
  · obtain ⟨y, hy, hr⟩ := hi.get h1
    have e : its[i]? = some y := by simpa using hy
    rw [show x = y from Option.some.inj (h2.symm.trans e)]; exact hr
  · obtain ⟨o', ho', hc, _⟩ := st.1
    rw [Option.some.inj (ho.symm.trans ho'), hc]; decide
theorem enum_str (hb : BaseOk W g B₀) (H : IhOk W g B₀ ih n) (hA : Room W A' n) (X : Sta W B₀ B ρ env cx σ s) {t e : Expr} {x : Str} {p q : Pos} {z : Str} (hr : readRaw g cx σ x = some (.val (.bf .enumerate))) (htu : isTup t = true) (hs : starred e = false)
    (h1 : ih.ex cx σ e = .ok (.val (.str z)) σ') :
    wpAny (model W.prog W.w) A' (eval (.Call (.Name x p) [e] [] q) env) (fun xv s₁ => wpAny (model W.prog W.w) A' (pyIter xv) (Drawn W B₀ env cx B ρ s t σ' (((signsOf z).zipIdx).map fun p => V.tup [.int (Int.ofNat p.2), p.1])) E s₁) E s := by
  refine bf1_call hb H hA X hr hs h1 fun B₁ ρ₁ s₁ y e1 st1 ra => ?_
  obtain ⟨tz, rfl⟩ := ra.val_inv.str_inv
  refine call_enumerate_str fun h' he hit hsz hk => ?_
  refine wpAny_pyIter_enum he ?_
  have key : ∀ (A : Around), A.handled = none → Draws W.prog W.w A.in1 s₁.heap.objs.size [s₁.heap.objs.size] z.cps.size (fun i v => ∃ c u, z.cps[i]? = some c ∧ v = .str ⟨#[c]⟩ u) (fun i h => h.IsStrIter s₁.heap.objs.size (strIterType z) z tz i) := by
    intro A hh
    unfold strIterType
    split
    · exact Draws.strAscii (A := A.in1) hh _ z tz
    · exact Draws.strWide (A := A.in1) hh _ z tz
  refine ⟨B₁, ρ₁, s₁, s₁.heap.objs.size + 1, [s₁.heap.objs.size + 1, s₁.heap.objs.size], _, h', s₁.toks, rfl, e1, st1, rfl, hk, by omega, (fun b hb => ?_),
    (fun A hh => Draw.enum (key A hh) htu (Nat.succ_ne_self _) (by simp) (by simp) (signs_length z) (fun b hb => .inl (by simpa using hb)) (fun i v x h1 ⟨c, u, h2, h3⟩ => ?_) (fun i h st o ho => ?_)), ⟨⟨_, he⟩, hit⟩⟩
  · rcases List.mem_cons.mp hb with rfl | hb
    · exact ⟨Nat.le_succ _, by rw [hsz]; exact Nat.lt_succ_self _⟩
    · rw [List.mem_singleton.mp hb]; exact ⟨Nat.le_refl _, by rw [hsz]; exact Nat.lt_succ_of_lt (Nat.lt_succ_self _)⟩
  · obtain ⟨c', h4, h5⟩ := signs_get h1
    rw [h2] at h4; cases h4
    rw [h3, h5]; exact .str
  · obtain ⟨o', ho', hc, _⟩ := st
    rw [Option.some.inj (ho.symm.trans ho'), hc]
    unfold strIterType; split <;> decide
theorem src_sound (hb : BaseOk W g B₀) (H : IhOk W g B₀ ih n) (hA : Room W A' n) (X : Sta W B₀ B ρ env cx σ s) {t it : Expr} {xs : List V} (h : src g ih cx σ t it = .ok xs σ') :
    wpAny (model W.prog W.w) A' (eval it env) (fun xv s₁ => wpAny (model W.prog W.w) A' (pyIter xv) (Drawn W B₀ env cx B ρ s t σ' xs) E s₁) E s ∧ ∀ x, foldedSetIterable it env x = pure x := by
  obtain ⟨hset, h⟩ := cond_bt h
  refine ⟨?_, fun x => by rcases it with ⟨⟩ <;> first | rfl | exact tt_ff hset⟩
  rcases q : enumArg g cx σ it with _ | e <;> rw [q] at h
  · obtain ⟨v, σ₁, h1, h2⟩ := Out.bindV_ok h
    obtain ⟨h3, rfl⟩ := Out.of_ok h2
    exact exV H h1 hA X fun B₁ ρ₁ s₁ x e1 st1 r1 => items_sound e1 st1 r1 h3
  · obtain ⟨hc, h⟩ := cond_bt h
    obtain ⟨v, σ₁, h1, h2⟩ := Out.bindV_ok h
    obtain ⟨h3, rfl⟩ := Out.of_ok h2
    obtain ⟨ys, h4, rfl⟩ := omap h3
    obtain ⟨x, p, q, rfl, hr⟩ := enum_inv q
    have hc := Bool.or_eq_false_iff.mp hc
    rcases v with ⟨⟩
    case list =>
      obtain rfl := Option.some.inj h4
      exact enum_sound hb H hA X hr (not_f hc.1) hc.2 h1
    case str =>
      obtain rfl := Option.some.inj h4
      exact enum_str hb H hA X hr (not_f hc.1) hc.2 h1
    all_goals exact nos h4
end
end

section
open PySem PySem.Calls PyProof.Rows PySem.W
set_option backward.match.sparseCases false
set_option maxRecDepth 100000
set_option linter.unusedVariables false
section
variable {prog : Program} {w : World} {A : Around} {E : Value → Shared → Prop} {R : Result → Shared → Prop} {s : Shared}
theorem for_turn {t : Expr} {it : Value} {body orelse : List Stmt} {env : Env}
    (h : wpAny (model prog w) A (pyNext it) (fun r s₁ => match r with
      | none => wpAny (model prog w) A (execs orelse env) (fun f s₃ => R (.ok f) s₃) No s₁
      | some v => wpAny (model prog w) A (letOwnedTupleGo t it v) (fun _ s₂ => wpAny (model prog w) A (PySem.assign t env v) (fun _ s₃ => wpAny (model prog w) A (execs body env) (fun f s₄ => match f with
          | .next | .cont => codeAny (model prog w) A (.forLoop t it body orelse env) R s₄
          | .brk => R (.ok .next) s₄
          | .ret v => R (.ok (.ret v)) s₄) No s₃) No s₂) No s₁) No s) : codeAny (model prog w) A (.forLoop t it body orelse env) R s := by
  refine codeAny_of_tree ?_
  show wpAny _ A ((forTurn t it body orelse env).onRaise (fun x => do noteFrame x env; theTreesLotGoes x)) _ _ s
  refine wpAny_noted ?_
  simp only [forTurn]
  refine wpAny_bind (wpAny_standAt (wpAny_bind (wpAny_onRaise (wpAny_mono h (fun r s₁ h₁ => ?_) fun _ _ h' => h'.elim))))
  cases r with
  | none => exact wpAny_pure ⟨rfl, codeAny_block (wpAny_mono h₁ (fun _ _ x => x) fun _ _ x => x.elim)⟩
  | some v =>
    refine wpAny_bind (wpAny_mono h₁ (fun _ s₂ h₂ => ?_) fun _ _ x => x.elim)
    refine wpAny_bind (wpAny_mono h₂ (fun _ s₂ h₂ => wpAny_bind (wpAny_mono h₂ (fun f s₃ h₃ => ?_) fun _ _ h' => h'.elim)) fun _ _ h' => h'.elim)
    cases f with
    | next => exact wpAny_pure ⟨rfl, h₃⟩
    | cont => exact wpAny_pure ⟨rfl, h₃⟩
    | brk => exact wpAny_pure h₃
    | ret v => exact wpAny_pure h₃
theorem while_turn {t : Expr} {body orelse : List Stmt} {env : Env}
    (h : wpAny (model prog w) A (isTrue t env (eval t env)) (fun b s₂ =>
        if b then wpAny (model prog w) A (execs body env) (fun f s₃ => match f with
            | .next | .cont => codeAny (model prog w) A (.whileLoop t body orelse env) R s₃
            | .brk => R (.ok .next) s₃
            | .ret v => R (.ok (.ret v)) s₃) (notedBy (model prog w) A env fun e s' => R (.error e) s') s₂
        else wpAny (model prog w) A (execs orelse env) (fun f s₃ => R (.ok f) s₃) (notedBy (model prog w) A env fun e s' => R (.error e) s') s₂)
        (notedBy (model prog w) A env fun e s' => R (.error e) s') s) : codeAny (model prog w) A (.whileLoop t body orelse env) R s := by
  refine codeAny_of_tree ?_
  show wpAny _ A ((whileTurn t body orelse env).onRaise (fun x => do noteFrame x env; theTreesLotGoes x)) _ _ s
  refine wpAny_noted ?_
  simp only [whileTurn]
  refine wpAny_bind (wpAny_mono h (fun b s₂ h₂ => ?_) fun _ _ h' => h')
  cases b with
  | false =>
    simp only [Bool.false_eq_true, if_false] at h₂ ⊢
    exact wpAny_bind (wpAny_mono h₂ (fun f s₃ h₃ => wpAny_pure h₃) fun _ _ h' => h')
  | true =>
    simp only [if_true] at h₂ ⊢
    refine wpAny_bind (wpAny_mono h₂ (fun f s₃ h₃ => ?_) fun _ _ h' => h')
    cases f with
    | next => exact wpAny_pure ⟨rfl, h₃⟩
    | cont => exact wpAny_pure ⟨rfl, h₃⟩
    | brk => exact wpAny_pure h₃
    | ret v => exact wpAny_pure h₃
theorem comp_turn {elt t iter : Expr} {ifs : List Expr} {scope : Scope} {pos : Pos} {it acc : Value} {env : Env}
    (h : wpAny (model prog w) A (pyNext it) (fun r s₁ => match r with
      | none => R (.ok .next) s₁
      | some v => wpAny (model prog w) A (letOwnedTupleGo t it v) (fun _ s₂ => wpAny (model prog w) A (PySem.assign t env v) (fun _ s₂ =>
          wpAny (model prog w) A (forIn ifs true fun c r => if r = true then do let ok ← isTrue c env (eval c env); pure (ForInStep.yield ok) else pure (ForInStep.yield r)) (fun ok s₃ =>
            if ok = true then wpAny (model prog w) A (eval elt env) (fun x s₄ =>
              wpAny (model prog w) A (call (.builtin "list.append") [acc, x]) (fun _ s₅ => codeAny (model prog w) A (.compLoop (.ListComp elt [⟨t, iter, ifs, 0⟩] scope pos) 0 it acc env) R s₅) No s₄) No s₃
            else codeAny (model prog w) A (.compLoop (.ListComp elt [⟨t, iter, ifs, 0⟩] scope pos) 0 it acc env) R s₃) No s₂) No s₂) No s₁) No s) :
    codeAny (model prog w) A (.compLoop (.ListComp elt [⟨t, iter, ifs, 0⟩] scope pos) 0 it acc env) R s := by
  refine codeAny_of_tree ?_
  show wpAny _ A ((compTurn (.ListComp elt [⟨t, iter, ifs, 0⟩] scope pos) 0 it acc env).onRaise (fun x => do noteFrame x env; theTreesLotGoes x)) _ _ s
  refine wpAny_noted ?_
  rw [compTurn_list]
  refine wpAny_bind (wpAny_standAt (wpAny_bind (wpAny_mono h (fun r s₁ h₁ => ?_) fun _ _ h' => h'.elim)))
  cases r with
  | none => exact wpAny_pure h₁
  | some v =>
    refine wpAny_bind (wpAny_mono h₁ (fun _ s₂ h₂ => ?_) fun _ _ x => x.elim)
    refine wpAny_bind (wpAny_mono h₂ (fun _ s₂ h₂ => wpAny_bind (wpAny_mono h₂ (fun ok s₃ h₃ => ?_) fun _ _ h' => h'.elim)) fun _ _ h' => h'.elim)
    cases ok with
    | false => exact wpAny_pure ⟨rfl, h₃⟩
    | true =>
      exact wpAny_bind (wpAny_bind (wpAny_mono h₃ (fun x s₄ h₄ => wpAny_bind (wpAny_mono h₄ (fun _ s₅ h₅ => wpAny_pure (wpAny_pure ⟨rfl, h₅⟩)) fun _ _ h' => h'.elim)) fun _ _ h' => h'.elim))
theorem compD_turn {kx vx t iter : Expr} {ifs : List Expr} {scope : Scope} {pos : Pos} {it : Value} {D : Addr} {env : Env}
    (h : wpAny (model prog w) A (pyNext it) (fun r s₁ => match r with
      | none => R (.ok .next) s₁
      | some v => wpAny (model prog w) A (letOwnedTupleGo t it v) (fun _ s₂ => wpAny (model prog w) A (PySem.assign t env v) (fun _ s₂ =>
          wpAny (model prog w) A (forIn ifs true fun c r => if r = true then do let ok ← isTrue c env (eval c env); pure (ForInStep.yield ok) else pure (ForInStep.yield r)) (fun ok s₃ =>
            if ok = true then wpAny (model prog w) A (eval kx env) (fun kv s₄ => wpAny (model prog w) A (eval vx env) (fun vv s₅ =>
              wpAny (model prog w) A (dictSet D kv vv) (fun _ s₆ => codeAny (model prog w) A (.compLoop (.DictComp kx vx [⟨t, iter, ifs, 0⟩] scope pos) 0 it (.ref D) env) R s₆) No s₅) No s₄) No s₃
            else codeAny (model prog w) A (.compLoop (.DictComp kx vx [⟨t, iter, ifs, 0⟩] scope pos) 0 it (.ref D) env) R s₃) No s₂) No s₂) No s₁) No s) :
    codeAny (model prog w) A (.compLoop (.DictComp kx vx [⟨t, iter, ifs, 0⟩] scope pos) 0 it (.ref D) env) R s := by
  refine codeAny_of_tree ?_
  show wpAny _ A ((compTurn (.DictComp kx vx [⟨t, iter, ifs, 0⟩] scope pos) 0 it (.ref D) env).onRaise (fun x => do noteFrame x env; theTreesLotGoes x)) _ _ s
  refine wpAny_noted ?_
  rw [compTurn_dict]
  refine wpAny_bind (wpAny_standAt (wpAny_bind (wpAny_mono h (fun r s₁ h₁ => ?_) fun _ _ h' => h'.elim)))
  cases r with
  | none => exact wpAny_pure h₁
  | some v =>
    refine wpAny_bind (wpAny_mono h₁ (fun _ s₂ h₂ => ?_) fun _ _ x => x.elim)
    refine wpAny_bind (wpAny_mono h₂ (fun _ s₂ h₂ => wpAny_bind (wpAny_mono h₂ (fun ok s₃ h₃ => ?_) fun _ _ h' => h'.elim)) fun _ _ h' => h'.elim)
    cases ok with
    | false => exact wpAny_pure ⟨rfl, h₃⟩
    | true =>
      exact wpAny_bind (wpAny_bind (wpAny_mono h₃ (fun kv s₄ h₄ => wpAny_bind (wpAny_holding (wpAny_mono h₄ (fun vv s₅ h₅ => wpAny_bind (wpAny_standAt (wpAny_holding (wpAny_mono h₅ (fun _ s₆ h₆ => wpAny_pure ⟨rfl, h₆⟩) fun _ _ h' => h'.elim)))) fun _ _ h' => h'.elim))) fun _ _ h' => h'.elim))
end
section
variable {W : Wd} {g : Gl} {B₀ B : Heap} {ρ : List Addr} {env : Env} {cx : Cx} {σ σ' : S} {s : Shared} {A' : Around} {n : Nat} {ih : Ih} {E : Value → Shared → Prop}
theorem store_sound {M' : Model} (X : Sta W B₀ B ρ env cx σ s) {x : Str} {a : A} {v : Value} {Q : Unit → Shared → Prop} (h : store cx σ x a = .ok () σ') (hr : RA W B ρ a v)
    (k : ∀ s', Ext env.locals B ρ s B ρ s' → Sta W B₀ B ρ env cx σ' s' → Q () s') : wpAny M' A' (storeName env x v) Q E s := by
  obtain ⟨σ₁, q, h1⟩ := optB_ok h
  obtain ⟨_, rfl⟩ := ok_inj h1
  exact name_store X q hr fun h' tk e st => k _ e st
inductive StoR (cx : Cx) (σ : S) (t : Expr) (ts : List Expr) (vs : List V) (σ' : S) : Prop
  | mk (x : Str) (p : Pos) (v : V) (r : List V) (σ₁ : S) (h1 : t = .Name x p) (h2 : vs = v :: r) (h3 : store cx σ x (.val v) = .ok () σ₁) (h4 : storeAll cx σ₁ ts r = .ok () σ')
theorem storeAll_cons {t : Expr} {ts : List Expr} {vs : List V} (h : storeAll cx σ (t :: ts) vs = .ok () σ') : StoR cx σ t ts vs σ' := by
  obtain ⟨x, h1, h2⟩ := optB_ok h
  obtain ⟨p, rfl⟩ := nameE_inv h1
  rcases vs with _ | ⟨v, r⟩
  · exact bad_ok h2
  · obtain ⟨_, σ₁, h3, h4⟩ := Out.bind_ok h2
    exact ⟨x, p, v, r, σ₁, rfl, rfl, h3, h4⟩
theorem storeAll_nil {vs : List V} (h : storeAll cx σ [] vs = .ok () σ') : vs = [] ∧ σ = σ' := by
  obtain ⟨h1, h2⟩ := cond_tb h
  exact ⟨isEmpty_inv h1, (ok_inj h2).2⟩
theorem storeAll_shape {ts : List Expr} : ∀ {vs : List V} {σ : S}, storeAll cx σ ts vs = .ok () σ' → (assignEach ts env).length = vs.length ∧ (assignEach ts env).findIdx? (·.1) = none := by
  induction ts with
  | nil =>
    intro vs σ h
    rw [(storeAll_nil h).1]
    exact ⟨rfl, rfl⟩
  | cons t ts ih =>
    intro vs σ h
    obtain ⟨x, p, v, r, σ₁, rfl, rfl, h1, h2⟩ := storeAll_cons h
    obtain ⟨a, b⟩ := ih h2
    refine ⟨congrArg (· + 1) a, ?_⟩
    show List.findIdx? _ ((false, PySem.assign (.Name x p) env) :: assignEach ts env) = none
    rw [List.findIdx?_cons, b]; rfl
theorem storeAll_sound {M' : Model} {ts : List Expr} : ∀ {vs : List V} {xs : List Value} {σ : S} {s : Shared} {Q : Unit → Shared → Prop}, storeAll cx σ ts vs = .ok () σ' → Sta W B₀ B ρ env cx σ s → RVs W B vs xs →
    (∀ s', Ext env.locals B ρ s B ρ s' → Sta W B₀ B ρ env cx σ' s' → Q () s') → wpAny M' A' (assignInOrder ((assignEach ts env).map (·.2)) xs) Q E s := by
  induction ts with
  | nil =>
    intro vs xs σ s Q h X hr k
    obtain ⟨rfl, rfl⟩ := storeAll_nil h
    rw [hr.nil_inv]
    exact wpAny_assignInOrder_none (k s (Ext.refl ..) X)
  | cons t ts ih =>
    intro vs xs σ s Q h X hr k
    obtain ⟨x, p, v, r, σ₁, rfl, rfl, h1, h2⟩ := storeAll_cons h
    obtain ⟨y, ys, rfl, ra, rb⟩ := hr.cons_inv
    exact wpAny_assignInOrder_more (wpAny_assign_Name (store_sound X h1 (.val ra) fun s₁ e1 st1 => ih h2 st1 rb fun s' e2 st2 => k s' (e1.trans e2) st2))
theorem tuple_sound (X : Sta W B₀ B ρ env cx σ s) {ts : List Expr} {k0 : Nat} {p0 : Pos} {vs : List V} {a : Addr} {items : Array Value} {Q : Unit → Shared → Prop} (h : storeAll cx σ ts vs = .ok () σ') (hx : RVs W B vs items.toList)
    (hu : ∀ {Q : List Value → Shared → Prop}, (∀ h', Heap.ExtBut s.heap.objs.size s.heap h' → Q items.toList { s with heap := h' }) → wpAny (model W.prog W.w) A' (unpackItems (.ref a) items.size none) Q E s)
    (k : ∀ s', Ext env.locals B ρ s B ρ s' → Sta W B₀ B ρ env cx σ' s' → Q () s') : wpAny (model W.prog W.w) A' (PySem.assign (.Tuple ts k0 p0) env (.ref a)) Q E s := by
  have grow : ∀ {h'}, Heap.ExtBut s.heap.objs.size s.heap h' → Sub s.heap h' := fun he b o q => he b o (Nat.ne_of_lt (Heap.lt_size q)) q
  obtain ⟨a1, a2⟩ := storeAll_shape (env := env) h
  have hn : (assignEach ts env).length = items.size := by rw [a1, hx.length]; simp
  rw [arm_assign_Tuple]
  refine wpAny_bind (wpAny_standAt ?_)
  unfold unpack
  rw [hn, a2]
  refine wpAny_bind (wpAny_holding (with_size (hu fun h' he hz => ?_)))
  exact storeAll_sound h (X.grow (k := s.toks) (grow he) hz) hx fun s' e2 st2 => k s' ((Ext.grow (k := s.toks) (grow he) hz).trans e2) st2
inductive AsgR (cx : Cx) (σ : S) (t : Expr) (v : V) (σ' : S) : Prop
  | name (x : Str) (p : Pos) (h1 : t = .Name x p) (h2 : store cx σ x (.val v) = .ok () σ')
  | tup (ts : List Expr) (k : Nat) (p : Pos) (vs : List V) (h1 : t = .Tuple ts k p) (h2 : v = .tup vs) (h3 : storeAll cx σ ts vs = .ok () σ')
  | lst (ts : List Expr) (k : Nat) (p : Pos) (vs : List V) (h1 : t = .Tuple ts k p) (h2 : v = .list vs) (h3 : storeAll cx σ ts vs = .ok () σ')
theorem asg_r {t : Expr} {v : V} (h : assign cx σ t v = .ok () σ') : AsgR cx σ t v σ' := by
  rcases t with ⟨⟩ <;> first | exact bad_ok h | skip
  · exact .name _ _ rfl h
  · obtain ⟨vs, h1, h2⟩ := optB_ok h
    rcases v with ⟨⟩ <;> first | exact nos h1 | skip
    · exact .lst _ _ _ _ rfl rfl (Option.some.inj h1 ▸ h2)
    · exact .tup _ _ _ _ rfl rfl (Option.some.inj h1 ▸ h2)
theorem assign_sound (hA : Room W A' n) (X : Sta W B₀ B ρ env cx σ s) {t : Expr} {v : V} {x : Value} {Q : Unit → Shared → Prop} (h : assign cx σ t v = .ok () σ') (hr : RV W B v x)
    (k : ∀ s', Ext env.locals B ρ s B ρ s' → Sta W B₀ B ρ env cx σ' s' → Q () s') : wpAny (model W.prog W.w) A' (PySem.assign t env x) Q E s := by
  rcases asg_r h with ⟨y, p, rfl, h2⟩ | ⟨ts, k0, p0, vs, rfl, rfl, h3⟩ | ⟨ts, k0, p0, vs, rfl, rfl, h3⟩
  · exact wpAny_assign_Name (store_sound X h2 (.val hr) k)
  · obtain ⟨a, items, rfl, ⟨o, ho, r⟩, hx⟩ := hr.tup_inv
    exact tuple_sound X h3 hx (wpAny_unpackItems_tuple hA.1 ⟨o, X.stays _ _ ho, r⟩) k
  · obtain ⟨l, its, rfl, hl, hi, _⟩ := hr.isList
    exact tuple_sound X h3 hi (kun_itemsOf hA.1 (X.list hl)) k
end
end

section
open PySem PySem.Calls PyProof.Rows PySem.W
set_option backward.match.sparseCases false
set_option maxRecDepth 100000
set_option linter.unusedVariables false
noncomputable def Apart (wr : List Addr) (L : Addr) (B : Heap) (ρ : List Addr) (s : Shared) : Prop := ∀ b ∈ wr, B.get? b = none ∧ b ∉ ρ ∧ b ≠ L ∧ b < s.heap.objs.size
theorem Apart.ext {wr L B ρ s B' ρ' s'} (x : Apart wr L B ρ s) (e : Ext L B ρ s B' ρ' s') : Apart wr L B' ρ' s' := fun b hb => by
  obtain ⟨h1, h2, h3, h4⟩ := x b hb
  refine ⟨?_, ?_, h3, Nat.lt_of_lt_of_le h4 e.size⟩
  · cases q : B'.get? b with
    | none => rfl
    | some o =>
      rcases e.new b o q h1 with z | z
      · exact absurd z h2
      · exact absurd h4 (Nat.not_lt.mpr z)
  · obtain ⟨t, ht, hn⟩ := e.rho
    rw [ht]
    intro hm
    rcases List.mem_append.mp hm with z | z
    · exact h2 z
    · exact absurd h4 (Nat.not_lt.mpr (hn b z))
theorem Ext.moved {wr L B₀ ρ₀ s₀ B ρ s} (e : Ext L B₀ ρ₀ s₀ B ρ s) {h' : Heap} {k : Nat} (hk : Keep wr s.heap h') (hz : s.heap.objs.size ≤ h'.objs.size) (hw : ∀ b ∈ wr, s₀.heap.objs.size ≤ b) :
    Ext L B₀ ρ₀ s₀ B ρ { s with heap := h', toks := k } :=
  ⟨e.sub, e.new, e.rho, fun b o h1 h2 h3 => by obtain ⟨o', q1, q2⟩ := e.keep b o h1 h2 h3; exact ⟨o', hk b o' (fun hm => Nat.lt_irrefl _ (Nat.lt_of_lt_of_le (Heap.lt_size h3) (hw b hm))) q1, q2⟩, Nat.le_trans e.size hz, e.rest⟩
section
variable {W : Wd} {g : Gl} {B₀ B : Heap} {ρ : List Addr} {env : Env} {cx : Cx} {σ σ' : S} {s : Shared} {A' : Around} {n : Nat} {ih : Ih} {E : Value → Shared → Prop}
noncomputable def NoF (W : Wd) (wr : List Addr) : Prop := ∀ b ∈ wr, ∀ e ∈ W.fs, e.frame ≠ some b
theorem Sta.moved (X : Sta W B₀ B ρ env cx σ s) {wr : List Addr} (nf : NoF W wr) (ap : Apart wr env.locals B ρ s) {h' : Heap} {k : Nat} (hk : Keep wr s.heap h') (hz : s.heap.objs.size ≤ h'.objs.size) :
    Sta W B₀ B ρ env cx σ { s with heap := h', toks := k } where
  stays := fun b o e => hk b o (fun hm => by rw [(ap b hm).1] at e; cases e) (X.stays b o e)
  base := X.base
  ok := X.ok
  locs := by obtain ⟨m, ⟨o, es, ep, ho, r⟩, h⟩ := X.locs; exact ⟨m, ⟨o, es, ep, hk _ _ (fun hm => (ap _ hm).2.2.1 rfl) ho, r⟩, h⟩
  L := X.L
  len := X.len
  nodup := X.nodup
  lt := fun a ha => Nat.lt_of_lt_of_le (X.lt a ha) hz
  mem := fun i m hm => by obtain ⟨a, h1, h2, h3⟩ := X.mem i m hm; exact ⟨a, h1, h2, h3.at fun o e => hk _ _ (fun hw => (ap _ hw).2.1 (List.mem_of_getElem? h1)) e⟩
  fr := X.fr_of hz fun o ho => ⟨o, hk _ _ (fun hm => (ap _ hm).2.2.1 rfl) ho, rfl⟩
  stk := X.stk.same fun F o h0 h1 h2 h4 h3 => by obtain ⟨e, he, hF⟩ := h4; exact ⟨hk _ _ (fun hm => nf F hm e he hF) h3, h1, h2⟩
theorem Apart.moved {wr L B ρ s} (x : Apart wr L B ρ s) {h' : Heap} {k : Nat} (hz : s.heap.objs.size ≤ h'.objs.size) : Apart wr L B ρ { s with heap := h', toks := k } :=
  fun b hb => let ⟨h1, h2, h3, h4⟩ := x b hb; ⟨h1, h2, h3, Nat.lt_of_lt_of_le h4 hz⟩
noncomputable def ExtW (wr : List Addr) (L : Addr) (B : Heap) (ρ : List Addr) (s : Shared) (B' : Heap) (ρ' : List Addr) (s' : Shared) : Prop :=
  ∀ Bb ρb sb, Ext L Bb ρb sb B ρ s → (∀ b ∈ wr, sb.heap.objs.size ≤ b) → Ext L Bb ρb sb B' ρ' s'
theorem ExtW.of {wr L B ρ s B' ρ' s'} (e : Ext L B ρ s B' ρ' s') : ExtW wr L B ρ s B' ρ' s' := fun _ _ _ e0 _ => e0.trans e
theorem ExtW.trans {wr L B ρ s B' ρ' s' B'' ρ'' s''} (e : ExtW wr L B ρ s B' ρ' s') (f : ExtW wr L B' ρ' s' B'' ρ'' s'') : ExtW wr L B ρ s B'' ρ'' s'' := fun _ _ _ e0 hw => f _ _ _ (e _ _ _ e0 hw) hw
theorem Draw.keep {B₁ : Heap} {t : Expr} {I : Addr} {wr : List Addr} {xs : List V} {St : Nat → Heap → Prop} {i : Nat} {B' : Heap} {ρ' : List Addr} {s' : Shared} (D : Draw W A' B₁ t I wr xs St) (st : St i s.heap)
    (X : Sta W B₀ B ρ env cx σ s) (hB : Sub B₁ B) (ap : Apart wr env.locals B ρ s) (e : Ext env.locals B ρ s B' ρ' s') (hs : Sub B' s'.heap) : St i s'.heap :=
  D.frame i _ _ st (hB.trans X.stays) ((hB.trans e.sub).trans hs) fun b hb o ho => e.kept (D.cls i _ st (hB.trans X.stays) b hb o ho) (ap b hb).2.2.1 (ap b hb).2.1 ho
theorem isNT_of {t : Expr} {v : V} (h : assign cx σ t v = .ok () σ') : isNT t = true := by
  rcases asg_r h with ⟨_, _, rfl, _⟩ | ⟨_, _, _, _, rfl, _, _⟩ | ⟨_, _, _, _, rfl, _, _⟩ <;> rfl
theorem draw_turn (hA : Room W A' n) {B₁ : Heap} {t : Expr} {I : Addr} {wr : List Addr} {xs : List V} {St : Nat → Heap → Prop} {i : Nat} {v : V} (D : Draw W A' B₁ t I wr xs St)
    (X : Sta W B₀ B ρ env cx σ s) (hB : Sub B₁ B) {wr' : List Addr} (nf : NoF W wr) (hww : ∀ b ∈ wr, b ∈ wr') (ap' : Apart wr' env.locals B ρ s) (st : St i s.heap) (hx : xs[i]? = some v) (h : assign cx σ t v = .ok () σ') {Q : Shared → Prop}
    (k : ∀ B' s', ExtW wr' env.locals B ρ s B' ρ s' → Sta W B₀ B' ρ env cx σ' s' → Sub B B' → Apart wr' env.locals B' ρ s' → St (i + 1) s'.heap →
      (∀ b o, o.cls ≠ .type "frame" → b ≠ env.locals → b ∉ ρ → b ∉ wr → s.heap.get? b = some o → s'.heap.get? b = some o) → Q s') {E E₁ E₂ : Value → Shared → Prop} :
    wpAny (model W.prog W.w) A' (pyNext (.ref I)) (fun r s₁ => ∃ x, r = some x ∧ wpAny (model W.prog W.w) A' (letOwnedTupleGo t (.ref I) x) (fun _ s₂ => wpAny (model W.prog W.w) A' (PySem.assign t env x) (fun _ s₃ => Q s₃) E₂ s₂) E₁ s₁) E s := by
  have hnt := isNT_of h
  have ap : Apart wr env.locals B ρ s := fun b hb => ap' b (hww b hb)
  have main := D.item i v s (fun x s₂ => s.heap.objs.size ≤ s₂.heap.objs.size → wpAny (model W.prog W.w) A' (PySem.assign t env x) (fun _ s₃ => Q s₃) E₂ s₂) E hnt hx (hB.trans X.stays) st ?_
  · refine with_size (wpAny_mono main (fun r s₁ hr hz => ?_) fun _ _ e => e)
    obtain ⟨x, hx, hh⟩ := hr
    exact ⟨x, hx, with_size (wpAny_mono (hh E₁) (fun _ s₂ h₂ hz₂ => h₂ (Nat.le_trans hz hz₂)) fun _ _ e => e)⟩
  intro x h' tk st' hk hr hz
  have Y := X.moved (k := tk) nf ap hk hz
  have apY := ap.moved (k := tk) hz
  have apY' := ap'.moved (k := tk) hz
  have eY : ExtW wr' env.locals B ρ s B ρ { s with heap := h', toks := tk } := fun Bb ρb sb e0 hw => e0.moved hk hz fun b hb => hw b (hww b hb)
  rcases hr with hr | ⟨T, items, vs, rfl, rfl, hT, hTw, ⟨o, ho, hrest⟩, hvs⟩
  · refine assign_sound hA Y h (hr.mono hB) fun s' e st2 => ?_
    exact k B s' (eY.trans (.of e)) st2 (Sub.refl _) (apY'.ext e) (D.keep st' Y hB apY e st2.stays) fun b o h0 h1 h2 h3 h4 => e.kept h0 h1 h2 (hk b o h3 h4)
  · have hTr : T ∉ ρ := fun hm => Nat.lt_irrefl _ (Nat.lt_of_lt_of_le (X.lt T hm) hT)
    have hTL : T ≠ env.locals := fun e => Nat.lt_irrefl _ (Nat.lt_of_lt_of_le (e ▸ X.Llt) hT)
    have Z := Y.freeze (a := T) ho hTL (fun j m _ e => hTr (List.mem_of_getElem? e)) (fun e he q => Nat.lt_irrefl _ (Nat.lt_of_lt_of_le (X.stk.at he q).1 hT))
    have sub : Sub B (addTo B h' T) := fun b o' e => addTo_get (Y.stays b o' e) (.inl (by rw [e]; rfl))
    have apZ' : Apart wr' env.locals (addTo B h' T) ρ { s with heap := h', toks := tk } := fun b hb => by
      obtain ⟨h1, h2, h3, h4⟩ := apY' b hb
      refine ⟨?_, h2, h3, h4⟩
      cases q : (addTo B h' T).get? b with
      | none => rfl
      | some o' =>
        rcases (addTo_of q).2 with z | z
        · rw [h1] at z; cases z
        · exact absurd (ap' b hb).2.2.2 (Nat.not_lt.mpr (z ▸ hT))
    have apZ : Apart wr env.locals (addTo B h' T) ρ { s with heap := h', toks := tk } := fun b hb => apZ' b (hww b hb)
    have eZ : ExtW wr' env.locals B ρ s (addTo B h' T) ρ { s with heap := h', toks := tk } := fun Bb ρb sb e0 hw => by
      have e1 := e0.moved (k := tk) hk hz fun b hb => hw b (hww b hb)
      refine ⟨e1.sub.trans sub, fun a o' h1 h2 => ?_, e1.rho, e1.keep, e1.size, e1.rest⟩
      rcases (addTo_of h1).2 with z | z
      · cases q : B.get? a with
        | none => rw [q] at z; cases z
        | some o'' => exact e1.new a o'' q h2
      · rw [z]; exact .inr (Nat.le_trans e0.size hT)
    refine assign_sound hA Z h (.tup ⟨o, addTo_get ho (.inr rfl), hrest⟩ (hvs.mono (hB.trans sub))) fun s' e st2 => ?_
    exact k _ s' (eZ.trans (.of e)) st2 sub (apZ'.ext e) (D.keep st' Z (hB.trans sub) apZ e st2.stays) fun b o h0 h1 h2 h3 h4 => e.kept h0 h1 h2 (hk b o h3 h4)
inductive GoodL {β : Type} (wr : List Addr) (W : Wd) (B₀ : Heap) (env : Env) (cx : Cx) (B : Heap) (ρ : List Addr) (s : Shared) (σ' : S) (R : Heap → List Addr → β → Prop) (x : β) (s' : Shared) : Prop
  | mk (B' : Heap) (ρ' : List Addr) (h1 : ExtW wr env.locals B ρ s B' ρ' s') (h2 : Sta W B₀ B' ρ' env cx σ' s') (h3 : R B' ρ' x)
theorem forGo_sound (H : IhOk W g B₀ ih n) (hA : Room W A' n) (hT : Top W env) {B₁ : Heap} {t : Expr} {I : Addr} {wr : List Addr} {xs : List V} {St : Nat → Heap → Prop} {body orelse : List Stmt} {f : Fl} (nf : NoF W wr) (D : Draw W A' B₁ t I wr xs St) :
    ∀ {vs : List V} {i : Nat} {σ B ρ s} {R : Result → Shared → Prop}, xs.drop i = vs → i ≤ xs.length → forGo ih cx t body orelse σ vs = .ok f σ' → Sta W B₀ B ρ env cx σ s → Sub B₁ B → Apart wr env.locals B ρ s → St i s.heap →
      (∀ fl s', GoodL wr W B₀ env cx B ρ s σ' (fun B' _ x => RF W B' f x) fl s' → R (.ok fl) s') → codeAny (model W.prog W.w) A' (.forLoop t (.ref I) body orelse env) R s := by
  intro vs
  induction vs with
  | nil =>
    intro i σ B ρ s R hd hle h X hB ap st k
    have hi : i = xs.length := by
      have := congrArg List.length hd
      simp at this; omega
    subst hi
    refine for_turn (with_size (D.done s _ _ st fun h' tk hk hz => ?_))
    have Y := X.moved (k := tk) nf ap hk hz
    refine good_step (β := Flow) (H.sts _ _ _ _ _ h _ _ _ _ _ hA hT Y) fun B₂ ρ₂ s₂ fl e2 st3 rf => ?_
    exact k fl s₂ ⟨B₂, ρ₂, fun Bb ρb sb e0 hw => (e0.moved hk hz hw).trans e2, st3, rf⟩
  | cons v vs ihv =>
    intro i σ B ρ s R hd hle h X hB ap st k
    obtain ⟨d1, d2⟩ := drop_cons hd
    obtain ⟨_, σ₁, h1, h2⟩ := Out.bind_ok h
    obtain ⟨f₁, σ₂, h3, h4⟩ := Out.bind_ok h2
    refine for_turn (wpAny_mono (draw_turn hA D X hB nf (fun _ hb => hb) ap st d1 h1 (E₁ := No) (E₂ := No) (Q := fun s₃ => wpAny (model W.prog W.w) A' (execs body env) (fun f s₄ => match f with
          | .next | .cont => codeAny (model W.prog W.w) A' (.forLoop t (.ref I) body orelse env) R s₄
          | .brk => R (.ok .next) s₄
          | .ret v => R (.ok (.ret v)) s₄) No s₃) fun B' s' ew st1 hB1' ap1 st2 _ => ?_) (fun r s₁ hr => ?_) fun _ _ e => e)
    · have hB1 := hB.trans hB1'
      refine good_step (β := Flow) (H.sts _ _ _ _ _ h3 _ _ _ _ _ hA hT st1) fun B₂ ρ₂ s₂ fl e2 st3 rf => ?_
      have cont : forGo ih cx t body orelse σ₂ vs = .ok f σ' → codeAny (model W.prog W.w) A' (.forLoop t (.ref I) body orelse env) R s₂ :=
        fun h5 => ihv d2 (by have := (List.getElem?_eq_some_iff.mp d1).1; omega) h5 st3 (hB1.trans e2.sub) (ap1.ext e2) (D.keep st2 st1 hB1 ap1 e2 st3.stays) fun fl s' hg => by obtain ⟨B', ρ', e3, st4, rr⟩ := hg; exact k fl s' ⟨B', ρ', (ew.trans (.of e2)).trans e3, st4, rr⟩
      rcases rf_inv rf with ⟨rfl, rfl⟩ | ⟨rfl, rfl⟩ | ⟨rfl, rfl⟩ | ⟨v, x, rfl, rfl, rf⟩
      · exact cont h4
      · obtain ⟨rfl, rfl⟩ := ok_inj h4
        exact k _ _ ⟨B₂, ρ₂, ew.trans (.of e2), st3, trivial⟩
      · exact cont h4
      · obtain ⟨rfl, rfl⟩ := ok_inj h4
        exact k _ _ ⟨B₂, ρ₂, ew.trans (.of e2), st3, rf⟩
    · obtain ⟨x, rfl, hq⟩ := hr
      exact hq
end
end

section
open PySem PySem.Calls PyProof.Rows PySem.W
set_option backward.match.sparseCases false
set_option maxRecDepth 100000
set_option linter.unusedVariables false
section
variable {prog : Program} {w : World} {K : Type} [DecidableEq K] {knd : KeyKind prog w K} {A : Around} {E : Value → Shared → Prop} {s : Shared}
theorem dictSet_le {d : Addr} {f} {k : K} {key v : Value} {n : Nat} {Q : Unit → Shared → Prop} (hkey : knd.is k key = true) (hm : s.heap.MapOf knd d f) (hz : s.heap.DictLe d n) (hn : n ≤ sizeLine)
    (hQ : ∀ h', h'.MapOf knd d (fun x => if x = k then some v else f x) → h'.DictLe d (if (f k).isSome then n else n + 1) → Heap.SameBut d s.heap h' → Q () { s with heap := h', toks := s.toks + 1 }) :
    wpAny (model prog w) A (dictSet d key v) Q E s := by
  obtain ⟨o, es, ep, ho, hc, hd, hk, hf⟩ := hm
  have hes : es.size ≤ n := hz _ _ _ ho hd
  have hfk := hf k
  rw [findBy_of_findIdx?] at hfk
  unfold dictSet
  try with_reducible refine wpAny_holding ?_
  refine wpAny_bind (knd.pyHash hkey ?_)
  unfold dictSetHashed
  try with_reducible refine wpAny_holding ?_
  refine wpAny_bind (wpAny_dictFind_of (s := { s with toks := s.toks + 1 }) hkey ho hd hk ?_)
  cases hi : es.findIdx? fun e => knd.is k e.key with
  | some i =>
    refine wpAny_bind (wpAny_rule (wpAny_bind (wpAny_updateDict (s := { s with toks := s.toks + 1 }) ho hd (wpAny_point (hQ _ ⟨_, _, ep, Heap.get?_update_self _ ho (Obj.isFreed_of_dict (Obj.data_mapDict hd _)),
      hc.mapDict _, Obj.data_mapDict hd _, hk.modify _ _, fun x => ?_⟩ (fun o' es' ep' ho' hd' => ?_) (Heap.SameBut.update ..))))))
    · rw [findBy_modify knd.is knd.inj es k x v i hi, hf]
    · rw [Heap.get?_update_self _ ho (Obj.isFreed_of_dict (Obj.data_mapDict hd _))] at ho'
      obtain rfl := Option.some.inj ho'
      rw [Obj.data_mapDict hd _] at hd'
      injection hd' with hd'
      rw [← hd']
      simp only [Array.size_modify]
      split <;> omega
  | none =>
    rw [hi] at hfk
    refine wpAny_bind (wpAny_rule (wpAny_updateDictKeys (hz := Nat.le_trans hes hn) (s := { s with toks := s.toks + 1 }) ho hd (hQ _ ⟨_, _, ep + 1, Heap.get?_update_self _ ho (Obj.isFreed_of_dict (Obj.data_mapDictKeys hd _)),
      hc.mapDictKeys _, Obj.data_mapDictKeys hd _, hk.push hkey _, fun x => ?_⟩ (fun o' es' ep' ho' hd' => ?_) (Heap.SameBut.update ..))))
    · rw [findBy_push knd.is es k x _ _ v (KeyKind.is_eq_decide hkey) hi, hf]
    · rw [Heap.get?_update_self _ ho (Obj.isFreed_of_dict (Obj.data_mapDictKeys hd _))] at ho'
      obtain rfl := Option.some.inj ho'
      rw [Obj.data_mapDictKeys hd _] at hd'
      injection hd' with hd'
      rw [← hd']
      have : (f k).isSome = false := by rw [← hfk]; rfl
      rw [this]
      simp only [Array.size_push]
      simp; omega
end
section
variable {W : Wd} {g : Gl} {B₀ B : Heap} {ρ : List Addr} {env : Env} {cx : Cx} {σ σ' : S} {s : Shared} {A' : Around} {n : Nat} {ih : Ih} {E : Value → Shared → Prop}
theorem lkW_put {x : V} {y : V} {z : Value} (h1 : ∀ a, keyEq x a = true → a = x) (h2 : ∀ q, keyEq q x = true → q = x) (h3 : keyEq x x = true) (hz : RV W B y z) : ∀ {ks : List V} {vs : List V} {ws : List Value}, RVs W B vs ws → ks.length = vs.length →
    ∃ ws', RVs W B (putV ks vs x y).2 ws' ∧ (putV ks vs x y).1.length = (putV ks vs x y).2.length ∧ (∀ q, lkW (putV ks vs x y).1 ws' q = if keyEq q x = true then some z else lkW ks ws q) ∧
      (putV ks vs x y).1.length = (if (lkW ks ws x).isSome then ks.length else ks.length + 1) ∧ (∀ a ∈ (putV ks vs x y).1, a ∈ ks ∨ a = x)
  | [], [], _, .nil, _ => by
    refine ⟨[z], .cons hz .nil, rfl, fun q => ?_, by simp [putV, lkW], fun a ha => .inr (by simpa [putV] using ha)⟩
    show cond (keyEq q x) (some z) none = _
    cases keyEq q x <;> rfl
  | k :: ks, v :: vs, _, .cons (x := w) (xs := ws) hv hr, hl => by
    have hl' : ks.length = vs.length := by simpa using hl
    cases hk : keyEq x k with
    | true =>
      have e := h1 k hk
      have ep : putV (k :: ks) (v :: vs) x y = (k :: ks, y :: vs) := by simp only [putV, hk, cond_true]
      rw [ep]
      refine ⟨z :: ws, .cons hz hr, by simpa using hl, fun q => ?_, by simp [lkW, hk], fun a ha => .inl ha⟩
      subst e
      show cond (keyEq q k) (some z) (lkW ks ws q) = if keyEq q k = true then some z else cond (keyEq q k) (some w) (lkW ks ws q)
      cases keyEq q k <;> rfl
    | false =>
      obtain ⟨ws', a1, a2, a3, a4, a5⟩ := lkW_put h1 h2 h3 hz hr hl'
      have ep : putV (k :: ks) (v :: vs) x y = (k :: (putV ks vs x y).1, v :: (putV ks vs x y).2) := by simp only [putV, hk, cond_false]
      rw [ep]
      refine ⟨w :: ws', .cons hv a1, by simp [a2], fun q => ?_, ?_, fun a ha => ?_⟩
      · show cond (keyEq q k) (some w) (lkW _ ws' q) = if keyEq q x = true then some z else cond (keyEq q k) (some w) (lkW ks ws q)
        rw [a3]
        cases hq : keyEq q x with
        | false => cases keyEq q k <;> rfl
        | true =>
          have := h2 q hq
          subst this
          rw [hk]; rfl
      · simp only [lkW, hk, cond_false, List.length_cons, a4]
        split <;> rfl
      · rcases List.mem_cons.mp ha with e | e
        · exact .inl (by simp [e])
        · rcases a5 a e with z | z
          · exact .inl (List.mem_cons_of_mem _ z)
          · exact .inr z
  | [], _ :: _, _, _, h => by simp at h
theorem keyEq_int (i : Int) (a : V) (h : keyEq (.int i) a = true) : a = .int i := by
  rcases a with ⟨⟩ <;> first | exact ff_tt h | exact congrArg V.int (of_decide_eq_true h).symm
theorem keyEq_int' (i : Int) (a : V) (h : keyEq a (.int i) = true) : a = .int i := by
  rcases a with ⟨⟩ <;> first | exact ff_tt h | exact congrArg V.int (of_decide_eq_true h)
theorem tests_skip (l : List Expr) {Q : Bool → Shared → Prop} (hQ : Q false s) : wpAny (model W.prog W.w) A' (forIn l false fun c r => if r = true then do let ok ← isTrue c env (eval c env); pure (ForInStep.yield ok) else pure (ForInStep.yield r)) Q E s := by
  induction l with
  | nil => rw [List.forIn_nil]; exact wpAny_pure hQ
  | cons c l ihl => rw [List.forIn_cons]; exact wpAny_bind (wpAny_pure ihl)
theorem tests_sound (H : IhOk W g B₀ ih n) (hA : Room W A' n) : ∀ {ifs : List Expr} {σ : S} {B ρ s} {b : Bool} {Q : Bool → Shared → Prop}, tests ih cx σ ifs = .ok b σ' → Sta W B₀ B ρ env cx σ s →
    (∀ B₁ ρ₁ s₁, Ext env.locals B ρ s B₁ ρ₁ s₁ → Sta W B₀ B₁ ρ₁ env cx σ' s₁ → Q b s₁) →
    wpAny (model W.prog W.w) A' (forIn ifs true fun c r => if r = true then do let ok ← isTrue c env (eval c env); pure (ForInStep.yield ok) else pure (ForInStep.yield r)) Q E s
  | [], σ, B, ρ, s, b, Q, h, X, k => by
    obtain ⟨rfl, rfl⟩ := ok_inj h
    rw [List.forIn_nil]
    exact wpAny_pure (k B ρ s (Ext.refl ..) X)
  | c :: r, σ, B, ρ, s, b, Q, h, X, k => by
    obtain ⟨b₁, σ₁, h1, h2⟩ := Out.bind_ok h
    rw [List.forIn_cons]
    simp only [if_true]
    refine wpAny_bind (wpAny_bind (good_step (β := Bool) (H.tr _ _ _ _ _ h1 _ _ _ _ _ hA X) fun B₁ ρ₁ s₁ x e1 st1 hx => wpAny_pure ?_))
    subst hx
    rcases x with _ | _
    · obtain ⟨rfl, rfl⟩ := ok_inj h2
      exact tests_skip r (k B₁ ρ₁ s₁ e1 st1)
    · exact tests_sound H hA h2 st1 fun B₂ ρ₂ s₂ e2 st2 => k B₂ ρ₂ s₂ (e1.trans e2) st2
theorem snoc_apart {wr : List Addr} {D : Addr} {h h' : Heap} (hs : Heap.SameBut D h h') : Keep (D :: wr) h h' := fun b o hb e => (hs.2 b fun q => hb (by simp [q])).trans e
theorem turns_sound (H : IhOk W g B₀ ih n) (hA : Room W A' n) {B₁ : Heap} {t elt iter : Expr} {ifs : List Expr} {scope : Scope} {pos : Pos} {I D : Addr} {wr : List Addr} {xs : List V} {St : Nat → Heap → Prop} (hDw : D ∉ wr) (nf : NoF W (D :: wr)) (Dr : Draw W A' B₁ t I wr xs St) :
    ∀ {vs : List V} {i : Nat} {ys acc : List V} {items : Array Value} {σ B ρ s} {R : Result → Shared → Prop}, xs.drop i = vs → i ≤ xs.length → turns ih cx t ifs elt σ vs = .ok ys σ' → acc.length + ys.length ≤ sizeLine →
      Sta W B₀ B ρ env cx σ s → Sub B₁ B → Apart (D :: wr) env.locals B ρ s → St i s.heap → s.heap.PlainList D items → RVs W B acc items.toList →
      (∀ B' ρ' s' items', ExtW (D :: wr) env.locals B ρ s B' ρ' s' → Sta W B₀ B' ρ' env cx σ' s' → Apart (D :: wr) env.locals B' ρ' s' → s'.heap.PlainList D items' → RVs W B' (acc ++ ys) items'.toList → R (.ok .next) s') →
      codeAny (model W.prog W.w) A' (.compLoop (.ListComp elt [⟨t, iter, ifs, 0⟩] scope pos) 0 (.ref I) (.ref D) env) R s := by
  intro vs
  induction vs with
  | nil =>
    intro i ys acc items σ B ρ s R hd hle h hsz X hB ap st hD hacc k
    have hi : i = xs.length := by
      have := congrArg List.length hd
      simp at this; omega
    subst hi
    obtain ⟨rfl, rfl⟩ := ok_inj h
    have apw : Apart wr env.locals B ρ s := fun b hb => ap b (List.mem_cons_of_mem _ hb)
    refine comp_turn (with_size (Dr.done s _ _ st fun h' tk hk hz => ?_))
    have Y := X.moved (k := tk) (fun b hb => nf b (List.mem_cons_of_mem _ hb)) apw hk hz
    exact k B ρ _ items (fun Bb ρb sb e0 hw => e0.moved hk hz fun b hb => hw b (List.mem_cons_of_mem _ hb)) Y (ap.moved hz) (by obtain ⟨m, hm⟩ := hD; exact ⟨m, hk _ _ hDw hm⟩) (by simpa using hacc)
  | cons v vs ihv =>
    intro i ys acc items σ B ρ s R hd hle h hsz X hB ap st hD hacc k
    obtain ⟨d1, d2⟩ := drop_cons hd
    have hi : i + 1 ≤ xs.length := (List.getElem?_eq_some_iff.mp d1).1
    obtain ⟨_, σ₁, h1, h2⟩ := Out.bind_ok h
    obtain ⟨b, σ₂, h3, h4⟩ := Out.bind_ok h2
    refine comp_turn (wpAny_mono (draw_turn hA Dr X hB (fun b hb => nf b (List.mem_cons_of_mem _ hb)) (fun _ hb => List.mem_cons_of_mem _ hb) ap st d1 h1 (E₁ := No) (E₂ := No) (Q := fun s₃ =>
        wpAny (model W.prog W.w) A' (forIn ifs true fun c r => if r = true then do let ok ← isTrue c env (eval c env); pure (ForInStep.yield ok) else pure (ForInStep.yield r)) (fun ok s₃ =>
            if ok = true then wpAny (model W.prog W.w) A' (eval elt env) (fun x s₄ =>
              wpAny (model W.prog W.w) A' (call (.builtin "list.append") [.ref D, x]) (fun _ s₅ => codeAny (model W.prog W.w) A' (.compLoop (.ListComp elt [⟨t, iter, ifs, 0⟩] scope pos) 0 (.ref I) (.ref D) env) R s₅) No s₄) No s₃
            else codeAny (model W.prog W.w) A' (.compLoop (.ListComp elt [⟨t, iter, ifs, 0⟩] scope pos) 0 (.ref I) (.ref D) env) R s₃) No s₃) fun B' s' ew st1 hB1' ap1 st2 kp => ?_) (fun r s₁ hr => ?_) fun _ _ e => e)
    · have hB1 := hB.trans hB1'
      have apD : ∀ {B ρ s}, Apart (D :: wr) env.locals B ρ s → Apart wr env.locals B ρ s := fun ap b hb => ap b (List.mem_cons_of_mem _ hb)
      have hDL := (ap D (by simp)).2.2.1
      have hDρ := (ap D (by simp)).2.1
      obtain ⟨m0, hm0⟩ := hD
      have hm1 := kp _ _ (by show Value.type "list" ≠ Value.type "frame"; decide) hDL hDρ hDw hm0
      refine tests_sound H hA h3 st1 fun B₂ ρ₂ s₂ e2 st3 => ?_
      have ap2 := ap1.ext e2
      have hm2 := e2.kept (by show Value.type "list" ≠ Value.type "frame"; decide) hDL (ap1 D (by simp)).2.1 hm1
      have st2' := Dr.keep st2 st1 hB1 (apD ap1) e2 st3.stays
      have hB2 := hB1.trans e2.sub
      cases b with
      | false =>
        simp only [Bool.false_eq_true, if_false]
        refine ihv d2 hi h4 hsz st3 hB2 ap2 st2' ⟨m0, hm2⟩ (hacc.mono ?_) fun B₃ ρ₃ s₃ items' e3 => k B₃ ρ₃ s₃ items' ((ew.trans (.of e2)).trans e3)
        exact hB1'.trans e2.sub
      | true =>
        simp only [if_true]
        obtain ⟨y, σ₃, h5, h6⟩ := Out.bindV_ok h4
        obtain ⟨ys', σ₄, h7, h8⟩ := Out.bind_ok h6
        obtain ⟨rfl, rfl⟩ := ok_inj h8
        refine exV H h5 hA st3 fun B₃ ρ₃ s₃ x e3 st4 rx => ?_
        have ap3 := ap2.ext e3
        have hm3 := e3.kept (by show Value.type "list" ≠ Value.type "frame"; decide) hDL (ap2 D (by simp)).2.1 hm2
        have st3' := Dr.keep st2' st3 hB2 (apD ap2) e3 st4.stays
        have hlen : items.size = acc.length := by rw [hacc.length]; simp
        have hl2 : acc.length + (ys'.length + 1) ≤ sizeLine := by simpa using hsz
        refine wpAny_list_append_plain (hsz := by omega) ⟨m0, hm3⟩ fun h₅ hl₅ hs₅ => ?_
        have hz5 : s₃.heap.objs.size ≤ h₅.objs.size := Nat.le_of_eq hs₅.1.symm
        have Z := st4.moved (k := s₃.toks) nf ap3 (snoc_apart hs₅) hz5
        have ew3 : ExtW (D :: wr) env.locals B ρ s B₃ ρ₃ { s₃ with heap := h₅ } := fun Bb ρb sb e0 hw => (((ew Bb ρb sb e0 hw).trans e2).trans e3).moved (k := s₃.toks) (snoc_apart hs₅) hz5 hw
        have st5 : St (i + 1) h₅ := Dr.frame _ _ _ st3' ((hB2.trans e3.sub).trans st4.stays) ((hB2.trans e3.sub).trans Z.stays) fun b hb o ho => (hs₅.2 b fun q => hDw (q ▸ hb)).trans ho
        refine ihv (acc := acc ++ [y]) d2 hi h7 (by simp; omega) Z (hB2.trans e3.sub) (ap3.moved (k := s₃.toks) hz5) st5 hl₅ ?_ fun B₄ ρ₄ s₄ items' e4 st6 ap4 hl6 hr6 => k B₄ ρ₄ s₄ items' (ew3.trans e4) st6 ap4 hl6 (by simpa using hr6)
        have := (hacc.mono ((hB1'.trans e2.sub).trans e3.sub)).append (.cons rx .nil)
        simpa using this
    · obtain ⟨x, rfl, hq⟩ := hr
      exact hq
end
end

section
open PySem PySem.Calls PyProof.Rows PySem.W
set_option backward.match.sparseCases false
set_option maxRecDepth 100000
set_option linter.unusedVariables false
section
variable {W : Wd} {g : Gl} {B₀ B : Heap} {ρ : List Addr} {env : Env} {cx : Cx} {σ σ' : S} {s : Shared} {A' : Around} {n : Nat} {ih : Ih} {E : Value → Shared → Prop}
theorem sizeLine_big : 1000 ≤ sizeLine := by unfold sizeLine; omega
inductive IntD (W : Wd) (B : Heap) (h : Heap) (D : Addr) (ks vs : List V) : Prop
  | mk (f : Int → Option Value) (ws : List Value) (m : Nat) (h1 : h.MapOf (intKind W.prog W.w) D f) (h2 : h.DictLe D m) (h3 : m ≤ ks.length) (h4 : RVs W B vs ws) (h5 : ∀ k, f k = lkW ks ws (.int k)) (h6 : ks.length = vs.length)
theorem IntD.at {B' h h' : Heap} {D : Addr} {ks vs : List V} (x : IntD W B h D ks vs) (s : Sub B B') (e : ∀ o, o.cls ≠ .type "frame" → h.get? D = some o → h'.get? D = some o) : IntD W B' h' D ks vs := by
  obtain ⟨f, ws, m, ⟨o, es, ep, ho, hx, r⟩, h2, h3, h4, h5, h6⟩ := x
  have hc : o.cls ≠ .type "frame" := fun q => absurd (hx.1.symm.trans q) (by decide)
  exact ⟨f, ws, m, ⟨o, es, ep, e _ hc ho, hx, r⟩, h2.of_same ho (e _ hc ho), h3, h4.mono s, h5, h6⟩
theorem turnsD_sound (H : IhOk W g B₀ ih n) (hA : Room W A' n) {B₁ : Heap} {t kx vx iter : Expr} {scope : Scope} {pos : Pos} {I D : Addr} {wr : List Addr} {xs : List V} {St : Nat → Heap → Prop} {v : V} (hDw : D ∉ wr) (nf : NoF W (D :: wr)) (Dr : Draw W A' B₁ t I wr xs St) :
    ∀ {vs : List V} {i : Nat} {ks us : List V} {σ B ρ s} {R : Result → Shared → Prop}, xs.drop i = vs → i ≤ xs.length → turnsD ih cx t kx vx σ vs ks us = .ok v σ' →
      Sta W B₀ B ρ env cx σ s → Sub B₁ B → Apart (D :: wr) env.locals B ρ s → St i s.heap → IntD W B s.heap D ks us →
      (∀ B' ρ' s' ks' us', v = .dict false ks' us' → ExtW (D :: wr) env.locals B ρ s B' ρ' s' → Sta W B₀ B' ρ' env cx σ' s' → Apart (D :: wr) env.locals B' ρ' s' → IntD W B' s'.heap D ks' us' → R (.ok .next) s') →
      codeAny (model W.prog W.w) A' (.compLoop (.DictComp kx vx [⟨t, iter, [], 0⟩] scope pos) 0 (.ref I) (.ref D) env) R s := by
  intro vs
  induction vs with
  | nil =>
    intro i ks us σ B ρ s R hd hle h X hB ap st hD k
    have hi : i = xs.length := by
      have := congrArg List.length hd
      simp at this; omega
    subst hi
    obtain ⟨rfl, rfl⟩ := ok_inj h
    have apw : Apart wr env.locals B ρ s := fun b hb => ap b (List.mem_cons_of_mem _ hb)
    refine compD_turn (with_size (Dr.done s _ _ st fun h' tk hk hz => ?_))
    have Y := X.moved (k := tk) (fun b hb => nf b (List.mem_cons_of_mem _ hb)) apw hk hz
    exact k B ρ _ ks us rfl (fun Bb ρb sb e0 hw => e0.moved hk hz fun b hb => hw b (List.mem_cons_of_mem _ hb)) Y (ap.moved hz) (hD.at (Sub.refl _) fun o _ e => hk _ _ hDw e)
  | cons x vs ihv =>
    intro i ks us σ B ρ s R hd hle h X hB ap st hD k
    obtain ⟨d1, d2⟩ := drop_cons hd
    have hi : i + 1 ≤ xs.length := (List.getElem?_eq_some_iff.mp d1).1
    obtain ⟨_, σ₁, h1, h2⟩ := Out.bind_ok h
    obtain ⟨kv, σ₂, h3, h4⟩ := Out.bindV_ok h2
    obtain ⟨vv, σ₃, h5, h6⟩ := Out.bindV_ok h4
    refine compD_turn (wpAny_mono (draw_turn hA Dr X hB (fun b hb => nf b (List.mem_cons_of_mem _ hb)) (fun _ hb => List.mem_cons_of_mem _ hb) ap st d1 h1 (E₁ := No) (E₂ := No) (Q := fun s₃ =>
        wpAny (model W.prog W.w) A' (forIn ([] : List Expr) true fun c r => if r = true then do let ok ← isTrue c env (eval c env); pure (ForInStep.yield ok) else pure (ForInStep.yield r)) (fun ok s₃ =>
            if ok = true then wpAny (model W.prog W.w) A' (eval kx env) (fun kv s₄ => wpAny (model W.prog W.w) A' (eval vx env) (fun vv s₅ =>
              wpAny (model W.prog W.w) A' (dictSet D kv vv) (fun _ s₆ => codeAny (model W.prog W.w) A' (.compLoop (.DictComp kx vx [⟨t, iter, [], 0⟩] scope pos) 0 (.ref I) (.ref D) env) R s₆) No s₅) No s₄) No s₃
            else codeAny (model W.prog W.w) A' (.compLoop (.DictComp kx vx [⟨t, iter, [], 0⟩] scope pos) 0 (.ref I) (.ref D) env) R s₃) No s₃) fun B' s' ew st1 hB1' ap1 st2 kp => ?_) (fun r s₁ hr => ?_) fun _ _ e => e)
    · have hB1 := hB.trans hB1'
      have apD : ∀ {B ρ s}, Apart (D :: wr) env.locals B ρ s → Apart wr env.locals B ρ s := fun ap b hb => ap b (List.mem_cons_of_mem _ hb)
      have hDL := (ap D (by simp)).2.2.1
      have hDρ := (ap D (by simp)).2.1
      have D1 := hD.at hB1' fun o hc e => kp _ _ hc hDL hDρ hDw e
      refine wpAny_tests_nil ?_
      simp only [if_true]
      refine exV H h3 hA st1 fun B₂ ρ₂ s₂ y e2 st3 ry => ?_
      have ap2 := ap1.ext e2
      have D2 := D1.at e2.sub fun o hc e => e2.kept hc hDL (ap1 D (by simp)).2.1 e
      have st2' := Dr.keep st2 st1 hB1 (apD ap1) e2 st3.stays
      refine exV H h5 hA st3 fun B₃ ρ₃ s₃ z e3 st4 rz => ?_
      have ap3 := ap2.ext e3
      have D3 := D2.at e3.sub fun o hc e => e3.kept hc hDL (ap2 D (by simp)).2.1 e
      have hB3 := (hB1.trans e2.sub).trans e3.sub
      have st3' := Dr.keep st2' st3 (hB1.trans e2.sub) (apD ap2) e3 st4.stays
      obtain ⟨_, h7, h8⟩ := optB_ok h6
      obtain ⟨q, rfl, h9⟩ := onI_inv h7
      obtain rfl := Option.some.inj h9
      obtain ⟨hz, h10⟩ := cond_tb h8
      have hle' := Nat.le_of_ble_eq_true hz
      obtain ⟨tq, rfl⟩ := ry.int_inv
      obtain ⟨f, ws, m, m1, m2, m3, m4, m5, m6⟩ := D3
      refine dictSet_le (k := q) (by simp [intKind, Value.isInt]) m1 m2 (by have := sizeLine_big; omega) fun h' n1 n2 hs => ?_
      have hz5 : s₃.heap.objs.size ≤ h'.objs.size := Nat.le_of_eq hs.1.symm
      have Z := st4.moved (k := s₃.toks + 1) nf ap3 (snoc_apart hs) hz5
      have ew3 : ExtW (D :: wr) env.locals B ρ s B₃ ρ₃ { s₃ with heap := h', toks := s₃.toks + 1 } := fun Bb ρb sb e0 hw => (((ew Bb ρb sb e0 hw).trans e2).trans e3).moved (snoc_apart hs) hz5 hw
      have st5 : St (i + 1) h' := Dr.frame _ _ _ st3' (hB3.trans st4.stays) (hB3.trans Z.stays) fun b hb o ho => (hs.2 b fun q => hDw (q ▸ hb)).trans ho
      obtain ⟨ws', a1, a2, a3, a4, a5⟩ := lkW_put (x := .int q) (y := vv) (keyEq_int q) (keyEq_int' q) (decide_eq_true rfl) rz m4 m6
      refine ihv d2 hi h10 Z hB3 (ap3.moved hz5) st5 ⟨_, ws', _, n1, n2, ?_, a1, fun k => ?_, a2⟩ fun B₄ ρ₄ s₄ ks' us' hv e4 st6 ap4 hl6 => k B₄ ρ₄ s₄ ks' us' hv (ew3.trans e4) st6 ap4 hl6
      · rw [a4, m5]
        split <;> omega
      · rw [a3, m5]
        by_cases hkq : k = q
        · rw [if_pos hkq]; exact (if_pos (decide_eq_true hkq)).symm
        · rw [if_neg hkq]; exact (if_neg fun e => hkq (of_decide_eq_true e)).symm
    · obtain ⟨x, rfl, hq⟩ := hr
      exact hq
noncomputable def clGo (env : Env) : List (Str × NameKind) → List (Str × Addr) → List (Str × Addr)
  | [], acc => acc
  | (x, k) :: r, acc => if k == .free then clGo env r ((x, (env.cells.lookup x).getD 0) :: acc) else clGo env r acc
theorem clGo_eq {env : Env} : ∀ {names : List (Str × NameKind)} {acc : List (Str × Addr)}, (∀ p ∈ names, p.2 = .free → (env.cells.lookup p.1).isSome = true) →
    (forIn names acc fun x cs => (match x with
      | (name, kind) => if (kind == NameKind.free) = true then do let a ← cellOf env name; pure (ForInStep.yield ((name, a) :: cs)) else pure (ForInStep.yield cs) : Sem (ForInStep (List (Str × Addr))))) = pure (clGo env names acc)
  | [], acc, _ => rfl
  | (x, k) :: r, acc, h => by
    rw [List.forIn_cons]
    have hr : ∀ p ∈ r, p.2 = .free → (env.cells.lookup p.1).isSome = true := fun p hp => h p (List.mem_cons_of_mem _ hp)
    unfold clGo
    cases hk : k == NameKind.free with
    | false =>
      simp only [hk, Bool.false_eq_true, if_false, pure_bind]
      exact clGo_eq hr
    | true =>
      obtain ⟨a, ha⟩ := Option.isSome_iff_exists.mp (h (x, k) (List.mem_cons_self ..) (by simpa using hk))
      have : cellOf env x = pure a := by unfold cellOf; rw [ha]
      simp only [hk, if_true, this, pure_bind, ha, Option.getD_some]
      exact clGo_eq hr
theorem clGo_mem {env : Env} : ∀ {names : List (Str × NameKind)} {acc : List (Str × Addr)}, (∀ p ∈ acc, p.2 = (env.cells.lookup p.1).getD 0) → ∀ p ∈ clGo env names acc, p.2 = (env.cells.lookup p.1).getD 0
  | [], acc, h => h
  | (y, k) :: r, acc, h => by
    unfold clGo
    split
    · refine clGo_mem fun p hp => ?_
      rcases List.mem_cons.mp hp with e | e
      · subst e; rfl
      · exact h p e
    · exact clGo_mem h
theorem clGo_has {env : Env} {x : Str} : ∀ {names : List (Str × NameKind)} {acc : List (Str × Addr)}, ((∃ b, (x, b) ∈ acc) ∨ (x, .free) ∈ names) → ∃ b, (x, b) ∈ clGo env names acc
  | [], acc, h => by
    rcases h with h | h
    · exact h
    · cases h
  | (y, k) :: r, acc, h => by
    unfold clGo
    split
    · refine clGo_has ?_
      rcases h with ⟨b, h⟩ | h
      · exact .inl ⟨b, List.mem_cons_of_mem _ h⟩
      · rcases List.mem_cons.mp h with e | e
        · cases e; exact .inl ⟨_, List.mem_cons_self ..⟩
        · exact .inr e
    · rename_i hk
      refine clGo_has ?_
      rcases h with h | h
      · exact .inl h
      · rcases List.mem_cons.mp h with e | e
        · cases e; exact absurd rfl hk
        · exact .inr e
theorem lookup_of_mem {α : Type} : ∀ {l : List (Str × α)} {x : Str} {b : α}, (x, b) ∈ l → ∃ c, l.lookup x = some c
  | (y, d) :: r, x, b, h => by
    rw [List.lookup_cons]
    cases q : x == y with
    | true => exact ⟨d, rfl⟩
    | false =>
      rcases List.mem_cons.mp h with e | e
      · cases e; simp at q
      · exact lookup_of_mem e
theorem clGo_lookup {env : Env} {names : List (Str × NameKind)} {x : Str} {a : Addr} (h : (x, NameKind.free) ∈ names) (ha : env.cells.lookup x = some a) : (clGo env names []).lookup x = some a := by
  obtain ⟨b, hb⟩ := clGo_has (env := env) (acc := []) (.inr h)
  obtain ⟨c, hc⟩ := lookup_of_mem hb
  have := clGo_mem (env := env) (names := names) (acc := []) (by simp) _ (mem_of_lookup hc)
  rw [ha] at this
  rw [hc]; exact congrArg some this
theorem relabel_eq {scope : Scope} (X : Sta W B₀ B ρ env cx σ s) : relabel scope env = relabelS scope cx.scope := by
  unfold relabel relabelS
  congr 1
  refine List.map_congr_left fun p _ => ?_
  obtain ⟨x, k⟩ := p
  have h1 : env.kindOf x = lkN cx.scope.names x := X.kindOf x
  have h2 : env.scope.kind = .function := X.fnKind
  simp only [h1, h2]
  cases k <;> cases q : lkN cx.scope.names x <;> (try (rename_i k'; cases k')) <;> rfl
theorem RM.shrink {t : List Addr} {h : Heap} {a : Addr} {m : M} (x : RM W B (ρ ++ t) h a m) (hc : ∀ j, m = .cell (some (.plc j)) → j < ρ.length) : RM W B ρ h a m := by
  rcases m with ⟨⟩ <;> first | exact x | skip
  rename_i c
  rcases c with _ | c
  · exact x
  obtain ⟨v, h1, h2⟩ := x
  refine ⟨v, h1, ?_⟩
  rcases c with w | i
  · exact .val h2.val_inv
  · obtain ⟨ad, rfl, h⟩ := h2.plc_inv
    exact .plc (by rw [List.getElem?_append_left (hc i rfl)] at h; exact h)
theorem closed_at {k : Nat} {mem : List (Option M)} (h : closed k mem = true) {i j : Nat} (hm : mem[i]? = some (some (.cell (some (.plc j))))) : j < k := by
  unfold closed at h
  rw [List.all_eq_true] at h
  have := h _ (List.mem_of_getElem? hm)
  simpa using this
theorem mem_back {B' : Heap} {ρ' : List Addr} {mem : List (Option M)} {h : Heap} (hρ : ∃ t, ρ' = ρ ++ t) (hl : mem.length = ρ'.length) (hc : closed ρ.length (mem.take ρ.length) = true)
    (hm : ∀ (i : Nat) (m : M), mem[i]? = some (some m) → Held W B' ρ' h i m) :
    (mem.take ρ.length).length = ρ.length ∧ ∀ (i : Nat) (m : M), (mem.take ρ.length)[i]? = some (some m) → Held W B' ρ h i m := by
  obtain ⟨t, rfl⟩ := hρ
  refine ⟨by rw [List.length_take, hl]; simp, fun i m hi => ?_⟩
  have hlt : i < ρ.length := by
    have := (List.getElem?_eq_some_iff.mp hi).1
    rw [List.length_take] at this; omega
  have hi' := hi
  rw [List.getElem?_take_of_lt hlt] at hi'
  obtain ⟨a, h1, h2, h3⟩ := hm i m hi'
  refine ⟨a, by rw [List.getElem?_append_left hlt] at h1; exact h1, h2, h3.shrink fun j e => ?_⟩
  subst e
  exact closed_at hc hi
theorem comp_back {B₁ B' : Heap} {ρ₁ ρ' : List Addr} {s₀ s' : Shared} {env' : Env} {cx' : Cx} (X : Sta W B₀ B₁ ρ₁ env cx σ s₀) (e : Ext env'.locals B₁ ρ₁ s₀ B' ρ' s') (Y : Sta W B₀ B' ρ' env' cx' σ' s')
    (hC : s₀.heap.objs.size ≤ env'.locals) (hc : closed σ.mem.length (σ'.mem.take σ.mem.length) = true) :
    Ext env.locals B₁ ρ₁ s₀ B' ρ₁ s' ∧ Sta W B₀ B' ρ₁ env cx ⟨σ.loc, σ'.mem.take σ.mem.length⟩ s' := by
  have keep : ∀ b o, b ∉ ρ₁ → s₀.heap.get? b = some o → ∃ o', s'.heap.get? b = some o' ∧ Kp o o' := fun b o hr q => e.keep b o (Nat.ne_of_lt (Nat.lt_of_lt_of_le (Heap.lt_size q) hC)) hr q
  rw [X.len] at hc
  obtain ⟨m1, m2⟩ := mem_back (W := W) (ρ := ρ₁) e.pre Y.len hc Y.mem
  refine ⟨⟨e.sub, fun a o h1 h2 => e.new a o h1 h2, ⟨[], by simp, by simp⟩, fun b o _ hr q => keep b o hr q, e.size, e.rest⟩, Y.stays, Y.base, X.ok, ?_, ⟨?_, X.L.2⟩, ?_, X.nodup, fun a ha => Nat.lt_of_lt_of_le (X.lt a ha) e.size, ?_, X.fr_of e.size fun o ho => let ⟨o', h1, h2⟩ := keep _ o X.L.2 ho; ⟨o', h1, h2.cls⟩, Y.stk.same fun F o _ h1 h2 _ h3 => ⟨h3, h1, fun hm => h2 (let ⟨t, ht⟩ := e.pre; ht ▸ List.mem_append_left _ hm)⟩⟩
  · obtain ⟨m, hn, h⟩ := X.locs
    exact ⟨m, ns_kp hn fun o ho => keep _ _ X.L.2 ho, fun x a q => let ⟨v, h1, h2⟩ := h x a q; ⟨v, h1, h2.mono e.sub ⟨[], by simp⟩⟩⟩
  · cases q : B'.get? env.locals with
    | none => rfl
    | some o =>
      rcases e.new _ _ q X.L.1 with z | z
      · exact absurd z X.L.2
      · exact absurd X.Llt (Nat.not_lt.mpr z)
  · show (σ'.mem.take σ.mem.length).length = ρ₁.length
    rw [X.len]; exact m1
  · intro i m hi
    have hi' : (σ'.mem.take σ.mem.length)[i]? = some (some m) := hi
    rw [X.len] at hi'
    exact m2 i m hi'
end
end

section
open PySem PySem.Calls PyProof.Rows PySem.W
set_option backward.match.sparseCases false
set_option maxRecDepth 100000
set_option linter.unusedVariables false
theorem cellsFrom_not {x : Str} : ∀ {names : List (Str × NameKind)} {lo : Nat} {acc : List (Str × Addr)}, x ∉ cellNames names → (cellsFrom lo names acc).lookup x = acc.lookup x
  | [], _, _, _ => rfl
  | (y, k) :: r, lo, acc, h => by
    unfold cellsFrom
    cases k with
    | cell =>
      simp only [cellNames, List.mem_cons, not_or] at h
      rw [if_pos (by decide : (NameKind.cell == NameKind.cell) = true), cellsFrom_not h.2, List.lookup_cons]
      have : (x == y) = false := by simpa using h.1
      rw [this]
    | _ =>
      simp only [cellNames] at h
      rw [if_neg (by decide)]
      exact cellsFrom_not h
theorem cellsFrom_at {x : Str} : ∀ {names : List (Str × NameKind)} {lo j : Nat} {acc : List (Str × Addr)}, (cellNames names).Nodup → (cellNames names)[j]? = some x → (cellsFrom lo names acc).lookup x = some (lo + j)
  | [], _, _, _, _, h => by simp [cellNames] at h
  | (y, k) :: r, lo, j, acc, hn, h => by
    unfold cellsFrom
    cases k with
    | cell =>
      simp only [cellNames] at h hn
      rw [if_pos (by decide : (NameKind.cell == NameKind.cell) = true)]
      obtain ⟨h1, h2⟩ := List.nodup_cons.mp hn
      cases j with
      | zero =>
        simp at h
        subst h
        rw [cellsFrom_not h1, List.lookup_cons]
        simp
      | succ j =>
        have h' : (cellNames r)[j]? = some x := by simpa using h
        rw [cellsFrom_at h2 h']
        congr 1; omega
    | _ =>
      simp only [cellNames] at h hn
      rw [if_neg (by decide)]
      exact cellsFrom_at hn h
theorem lkN_zip {x : Str} {i : Nat} : ∀ {l : List Str} {n : Nat}, lkN (l.zipIdx n) x = some i → ∃ j, i = n + j ∧ l[j]? = some x
  | [], _, h => by cases h
  | y :: r, n, h => by
    simp only [List.zipIdx_cons, lkN] at h
    cases q : nEq x y with
    | true => rw [q] at h; cases h; exact ⟨0, rfl, by simp [nEq_iff.mp q]⟩
    | false =>
      rw [q] at h
      obtain ⟨j, h1, h2⟩ := lkN_zip h
      exact ⟨j + 1, by omega, by simpa using h2⟩
theorem nodup_one {α : Type} : ∀ {l : List α}, l.length ≤ 1 → l.Nodup
  | [], _ => .nil
  | [_], _ => List.nodup_cons.mpr ⟨List.not_mem_nil, .nil⟩
  | _ :: _ :: l, h => absurd h (by simp)
theorem lkN_app {α : Type} {x : Str} : ∀ {l r : List (Str × α)}, lkN (l ++ r) x = match lkN l x with
    | some v => some v
    | none => lkN r x
  | [], _ => rfl
  | p :: l, r => by
    simp only [List.cons_append, lkN]
    cases nEq x p.1
    · exact lkN_app
    · rfl
theorem lkN_zip_none {x : Str} : ∀ {l : List Str} {n : Nat}, lkN (l.zipIdx n) x = none → x ∉ l
  | [], _, _ => List.not_mem_nil
  | y :: r, n, h => by
    simp only [List.zipIdx_cons, lkN] at h
    cases q : nEq x y with
    | true => rw [q] at h; cases h
    | false =>
      rw [q] at h
      intro hm
      rcases List.mem_cons.mp hm with e | e
      · rw [e, nEq_self] at q; cases q
      · exact lkN_zip_none h e
theorem own_cells {h : Heap} {names : List (Str × NameKind)} (hn : (cellNames names).Nodup) {j : Nat} {y : Str} (hj : (cellNames names)[j]? = some y) : (pushCells h names).IsCell (h.objs.size + j) none :=
  ((cellsFrom_ok names h 0 [] ⟨fun _ _ hm => (nomatch hm), List.Pairwise.nil⟩ (Nat.zero_le _)).empty y _ (mem_of_lookup (cellsFrom_at hn hj))).1
theorem loc_of {o : Option NameKind} (h : isLocK o = true) : o = some .local := by
  rcases o with _ | k
  · exact ff_tt h
  · rcases k with ⟨⟩ <;> first | rfl | exact ff_tt h
theorem cell_of {o : Option NameKind} (h : isCellK o = true) : o = some .cell := by
  rcases o with _ | k
  · exact ff_tt h
  · rcases k with ⟨⟩ <;> first | rfl | exact ff_tt h
structure ScopeOk (scope : Scope) (cx : Cx) : Prop where
  kind : scope.kind = .function
  cells : (cellNames scope.names).Nodup
  locs : ∀ x ∈ scope.names, x.2 = .local → scope.names.lookup x.1 = some .local
  free : ∀ x ∈ scope.names, x.2 = .free → lkN cx.scope.names x.1 = some .cell ∧ ∃ i, lkN cx.cells x.1 = some i
theorem scopeOk_of {scope : Scope} {cx : Cx} (h : scopeOk scope cx = true) : ScopeOk scope cx := by
  unfold scopeOk at h
  simp only [Bool.and_eq_true, List.all_eq_true] at h
  obtain ⟨⟨h1, h2⟩, h3⟩ := h
  refine ⟨?_, nodup_one (Nat.le_of_ble_eq_true h2), fun x hx hl => ?_, fun x hx hl => ?_⟩
  · rcases q : scope.kind with ⟨⟩ <;> rw [q] at h1 <;> first | rfl | exact ff_tt h1
  · have := (h3 x hx).1
    rw [hl] at this
    rw [← lkN_eq]
    exact loc_of this
  · have := (h3 x hx).2
    rw [hl] at this
    simp only [isFree, Bool.not_true, Bool.false_or, Bool.and_eq_true] at this
    refine ⟨?_, Option.isSome_iff_exists.mp this.2⟩
    exact cell_of this.1
theorem cellNames_cons {x : Str} {k : NameKind} {y : Str} {r : List (Str × NameKind)} (h : x ∈ cellNames r) : x ∈ cellNames ((y, k) :: r) := by
  cases k <;> first | exact h | exact List.mem_cons_of_mem _ h
theorem relabel_cell {outer : Scope} : ∀ {names : List (Str × NameKind)} {x : Str},
    lkN (names.map fun p => cond (isFree p.2 && isCellK (lkN outer.names p.1)) (p.1, .cell) p) x = some .cell → x ∈ cellNames names ∨ (x, NameKind.free) ∈ names
  | [], _, h => by cases h
  | (y, k) :: r, x, h => by
    simp only [List.map_cons, lkN] at h
    have hfst : (cond (isFree k && isCellK (lkN outer.names y)) (y, NameKind.cell) (y, k)).1 = y := by cases (isFree k && isCellK (lkN outer.names y)) <;> rfl
    rw [hfst] at h
    cases q : nEq x y with
    | true =>
      rw [q] at h
      have e := nEq_iff.mp q
      subst e
      cases z : (isFree k && isCellK (lkN outer.names x)) with
      | true =>
        rw [Bool.and_eq_true] at z
        have hk : k = .free := by
          have := z.1
          cases k <;> first | rfl | cases this
        subst hk; exact .inr (List.mem_cons_self ..)
      | false =>
        rw [z] at h
        have : k = .cell := Option.some.inj h
        subst this
        exact .inl (List.mem_cons_self ..)
    | false =>
      rw [q] at h
      rcases relabel_cell h with e | e
      · exact .inl (cellNames_cons e)
      · exact .inr (List.mem_cons_of_mem _ e)
section
variable {W : Wd} {g : Gl} {B₀ B : Heap} {ρ : List Addr} {env : Env} {cx : Cx} {σ σ' : S} {s : Shared} {A' : Around} {n : Nat} {ih : Ih} {E : Value → Shared → Prop}
theorem closure_eq (X : Sta W B₀ B ρ env cx σ s) {scope : Scope} (ok : ScopeOk scope cx) : closureFor scope env = pure (clGo env scope.names []) := by
  unfold closureFor
  have := clGo_eq (env := env) (names := scope.names) (acc := []) (fun p hp hf => by
    obtain ⟨h1, i, h2⟩ := ok.free p hp hf
    obtain ⟨a, h3, _⟩ := X.ok.cells _ _ h1 h2
    rw [h3]; rfl)
  simp only [pure_bind, bind_pure] at this ⊢
  exact this
noncomputable def compAddrs (scope : Scope) (L : Nat) : List Addr := List.range' (L + 1) (cellNames scope.names).length
theorem compAddrs_lt {scope : Scope} {L b : Nat} (h : b ∈ compAddrs scope L) : L < b := by
  have := List.mem_range'_1.mp h
  omega
theorem newBlock {M' : Model} {s₀ : Shared} (X : Sta W B₀ B ρ env cx σ s₀) {scope : Scope} (ok : ScopeOk scope cx) (hs : ∃ h tk, s = { s₀ with heap := h, toks := tk }) (sub : Sub s₀.heap s.heap) (hz : s₀.heap.objs.size ≤ s.heap.objs.size) {Q : Env → Shared → Prop}
    (k : ∀ (cenv : Env) s', cenv.locals = s.heap.objs.size → Sub s.heap s'.heap → s.heap.objs.size < s'.heap.objs.size →
      Sta W B₀ B (ρ ++ compAddrs scope s.heap.objs.size) { cenv with scope := relabel scope env } (inner scope cx σ.mem.length) ⟨[], σ.mem ++ newCells scope⟩ s' → Ext cenv.locals B ρ s₀ B (ρ ++ compAddrs scope s.heap.objs.size) s' → Q cenv s') :
    wpAny M' A' (newFunctionEnv scope env.globals (clGo env scope.names []) [] env.qual none .none (some env)) Q E s := by
  obtain ⟨h, tk, rfl⟩ := hs
  simp only [newFunctionEnv, Option.isSome_some, if_true]
  refine wpAny_bind (wpAny_alloc ?_)
  refine wpAny_bind (wpAny_layCells _ (fun name kind cells => by cases hkc : kind == NameKind.cell <;> simp [hkc]) _ _ _ _ ?_)
  rw [List.forIn_nil]
  refine wpAny_bind (wpAny_pure (wpAny_pure ?_))
  dsimp only at sub hz ⊢
  have own := fun j y hj => own_cells (h := h.push { cls := .type "dict", data := .dict #[] }) (names := scope.names) ok.cells (j := j) (y := y) hj
  rw [Heap.size_push] at own
  have hns : (pushCells (h.push { cls := .type "dict", data := .dict #[] }) scope.names).Ns h.objs.size (fun _ => none) := (Heap.Ns.new h (.type "dict")).keeps (pushCells_keeps _ _)
  have sub1 : Sub h (pushCells (h.push { cls := .type "dict", data := .dict #[] }) scope.names) := fun b o e => pushCells_keeps _ _ b o (Heap.get?_push_of_some _ e)
  rw [Heap.size_push]
  generalize pushCells (h.push { cls := .type "dict", data := .dict #[] }) scope.names = h₁ at own hns sub1
  have hz1 : h.objs.size < h₁.objs.size := by obtain ⟨o, es, ep, ho, _⟩ := hns; exact Heap.lt_size ho
  have Y := X.grow (k := tk) (sub.trans sub1) (Nat.le_trans hz (Nat.le_of_lt hz1))
  have hB : ∀ b, h.objs.size ≤ b → B.get? b = none := fun b hb => by
    cases q : B.get? b with
    | none => rfl
    | some o => exact absurd (Heap.lt_size (X.stays _ _ q)) (Nat.not_lt.mpr (Nat.le_trans hz hb))
  have hca : ∀ j, j < (cellNames scope.names).length → (ρ ++ compAddrs scope h.objs.size)[σ.mem.length + j]? = some (h.objs.size + 1 + j) := fun j hj => by
    rw [X.len, List.getElem?_append_right (Nat.le_add_right _ _)]
    unfold compAddrs
    rw [Nat.add_sub_cancel_left, List.getElem?_range' hj, Nat.one_mul]
  have hρ : ∀ b, h.objs.size ≤ b → b ∉ ρ := fun b hb hm => absurd (X.lt _ hm) (Nat.not_lt.mpr (Nat.le_trans hz hb))
  have eg : Ext h.objs.size B ρ s₀ B ρ { s₀ with heap := h₁, toks := tk } := Ext.grow (sub.trans sub1) (Nat.le_trans hz (Nat.le_of_lt hz1))
  refine k _ _ rfl sub1 hz1 ⟨Y.stays, Y.base, ⟨?_, ?_, ?_, ?_, fun x i hx hi => ?_⟩, ⟨_, hns, fun x a e => by cases e⟩, ⟨hB _ (Nat.le_refl _), fun hm => ?_⟩, ?_, ?_, fun b hb => ?_, fun i m hi => ?_, fun F hF => ?_, fun e he => ?_⟩
    ⟨eg.sub, eg.new, ⟨_, rfl, fun a ha => Nat.le_trans hz (Nat.le_of_lt (compAddrs_lt ha))⟩, eg.keep, eg.size, eg.rest⟩
  · show relabel scope env = relabelS scope cx.scope
    exact relabel_eq X
  · show scope.kind = .function
    exact ok.kind
  · exact X.ok.globals
  · exact X.ok.builtins
  · have hx' : lkN (relabelS scope cx.scope).names x = some .cell := hx
    have hi' : lkN (((cellNames scope.names).zipIdx σ.mem.length) ++ cx.cells) x = some i := hi
    rw [lkN_app] at hi'
    show ∃ a, (cellsFrom (h.objs.size + 1) scope.names (clGo env scope.names [])).lookup x = some a ∧ _
    cases q : lkN ((cellNames scope.names).zipIdx σ.mem.length) x with
    | some i' =>
      rw [q] at hi'
      obtain rfl := Option.some.inj hi'
      obtain ⟨j, rfl, hj⟩ := lkN_zip q
      exact ⟨_, cellsFrom_at ok.cells hj, hca j (List.getElem?_eq_some_iff.mp hj).1⟩
    | none =>
      rw [q] at hi'
      have hn := lkN_zip_none q
      have hf := (relabel_cell hx').resolve_left hn
      obtain ⟨h1, i', h2⟩ := ok.free _ hf rfl
      obtain ⟨a, h3, h4⟩ := X.ok.cells _ _ h1 hi'
      exact ⟨a, (cellsFrom_not hn).trans (clGo_lookup hf h3), by rw [List.getElem?_append_left (List.getElem?_eq_some_iff.mp h4).1]; exact h4⟩
  · have hm' : h.objs.size ∈ ρ ++ compAddrs scope h.objs.size := hm
    rcases List.mem_append.mp hm' with z | z
    · exact hρ _ (Nat.le_refl _) z
    · exact Nat.lt_irrefl _ (compAddrs_lt z)
  · show (σ.mem ++ newCells scope).length = (ρ ++ compAddrs scope h.objs.size).length
    unfold newCells compAddrs
    rw [List.length_append, List.length_append, List.length_map, List.length_range', X.len]
  · rw [List.nodup_append]
    refine ⟨X.nodup, List.nodup_range', fun b hb d hd e => ?_⟩
    subst e
    exact hρ _ (Nat.le_of_lt (compAddrs_lt hd)) hb
  · rcases List.mem_append.mp hb with z | z
    · exact Y.lt _ z
    · obtain ⟨hb1, hb2⟩ := List.mem_range'_1.mp z
      obtain ⟨j, rfl⟩ := Nat.exists_eq_add_of_le hb1
      exact (own j _ (List.getElem?_eq_getElem (Nat.lt_of_add_lt_add_left hb2))).lt
  · have hi' : (σ.mem ++ newCells scope)[i]? = some (some m) := hi
    by_cases hlt : i < σ.mem.length
    · rw [List.getElem?_append_left hlt] at hi'
      obtain ⟨b, h1, h2, h3⟩ := Y.mem i m hi'
      exact ⟨b, by rw [List.getElem?_append_left (by rw [← X.len]; exact hlt)]; exact h1, h2, h3.mono (Sub.refl _) ⟨_, rfl⟩⟩
    · have hle := Nat.not_lt.mp hlt
      rw [List.getElem?_append_right hle] at hi'
      obtain ⟨j, rfl⟩ := Nat.exists_eq_add_of_le hle
      rw [Nat.add_sub_cancel_left] at hi'
      unfold newCells at hi'
      rw [List.getElem?_map] at hi'
      obtain ⟨y, q, hi2⟩ := omap hi'
      obtain rfl := Option.some.inj hi2
      exact ⟨_, hca j (List.getElem?_eq_some_iff.mp q).1, hB _ (by rw [Nat.add_assoc]; exact Nat.le_add_right _ _), own j y q⟩
  · have hF' : env.frame = some F := hF
    have h1 := (X.fr F hF').1
    refine ⟨Nat.lt_of_lt_of_le h1 (Nat.le_trans hz (Nat.le_of_lt hz1)), fun e => ?_⟩
    have e' : F = h.objs.size := e
    exact absurd h1 (Nat.not_lt.mpr (e' ▸ hz))
  · obtain ⟨h0, G, o', h1, h2, h3, h4, h5, h6⟩ := X.stk e he
    refine ⟨h0, G, o', h1, (sub.trans sub1) _ _ h2, h3, h4, h5, fun hm => ?_⟩
    rcases List.mem_append.mp hm with z | z
    · exact h6 z
    · exact absurd (Heap.lt_size h2) (Nat.not_lt.mpr (Nat.le_trans hz (Nat.le_of_lt (compAddrs_lt z))))
theorem comp_frame (X : Sta W B₀ B ρ env cx σ s) (hb : BaseOk W g B₀) (H : IhOk W g B₀ ih n) (hA : Room W A' n) {e : Expr} {scope : Scope} {pos : Pos} {newAcc first : Sem Value} {c : Comprehension}
    {use : Option (Value → Sem Unit)} {Q : Value → Shared → Prop} {xs : List V} {σ₁ : S} {d : Data} {T : String} {v : V} {back₀ : Out V}
    (hcl : clausesOf e = [c]) (hfirst : first = eval c.iter env) (hok : scopeOk scope cx = true) (hsrc : src g ih cx σ c.target c.iter = .ok xs σ₁)
    (hacc : ∀ (s : Shared) (Q : Value → Shared → Prop) (E : Value → Shared → Prop), Q (.ref s.heap.objs.size) { s with heap := s.heap.push { cls := .type T, data := d } } → wpAny (model W.prog W.w) A' newAcc Q E s) (hd : ({ cls := .type T, data := d } : Obj).isFreed = false)
    (loop : ∀ {B₁ : Heap} {ρ₁ ρ₂ : List Addr} {s₄ : Shared} {I D : Addr} {wr : List Addr} {St : Nat → Heap → Prop} {cenv : Env} {R : Result → Shared → Prop}, (∃ s₀ : Shared, Sta W B₀ B₁ ρ₁ env cx σ₁ s₀ ∧ s₀.heap.objs.size ≤ D) → NoF W (D :: wr) → D ∉ wr → Draw W A' B₁ c.target I wr xs St →
      Sta W B₀ B₁ ρ₂ cenv (inner scope cx σ₁.mem.length) ⟨[], σ₁.mem ++ newCells scope⟩ s₄ → Apart (D :: wr) cenv.locals B₁ ρ₂ s₄ → St 0 s₄.heap → s₄.heap.get? D = some { cls := .type T, data := d } →
      (∀ B' ρ' s' σ₂ o, back₀ = .ok v σ₂ → ExtW (D :: wr) cenv.locals B₁ ρ₂ s₄ B' ρ' s' → Sta W B₀ B' ρ' cenv (inner scope cx σ₁.mem.length) σ₂ s' → Apart (D :: wr) cenv.locals B' ρ' s' → s'.heap.get? D = some o → (∀ B'', Sub B' B'' → B''.get? D = some o → RV W B'' v (.ref D)) → R (.ok .next) s') →
      codeAny (model W.prog W.w) A' (.compLoop e 0 (.ref I) (.ref D) cenv) R s₄)
    (start : ∀ {it acc : Value} {env' : Env} {R : Result → Shared → Prop} {s : Shared}, codeAny (model W.prog W.w) A' (.compLoop e 0 it acc env') R s →
      (∀ {Q : Value → Shared → Prop} {E : Value → Shared → Prop}, Q it s → wpAny (model W.prog W.w) A' (pyIter it) Q E s) → codeAny (model W.prog W.w) A' (.compStart e 0 it acc env') R s)
    (hback : back σ₁.loc σ₁.mem.length back₀ = .ok v σ')
    (k : ∀ B' ρ' s' acc C, Ext env.locals B ρ s B' ρ' s' → Sta W B₀ B' ρ' env cx σ' s' → RV W B' v acc → Apart [C] env.locals B' ρ' s' → s.heap.objs.size ≤ C → NoF W [C] → (∃ m, s'.heap.Ns C m) → compPost (model W.prog W.w) A' E use Q acc C (.ok .next) s') :
    wpAny (model W.prog W.w) A' (comprehension e scope env pos newAcc false first use) Q E s := by
  have ok := scopeOk_of hok
  obtain ⟨hsrc1, hs⟩ := src_sound (E := E) hb H hA X hsrc
  refine wpAny_comprehension_free hcl hs (closure_eq X ok) ok.kind ok.locs ?_
  rw [hfirst]
  refine wpAny_mono hsrc1 (fun x s₁ h₁ => wpAny_mono h₁ (fun it s₂ h₂ => ?_) fun _ _ e => e) fun _ _ e => e
  obtain ⟨B₁, ρ₁, s₀, I, wr, St, h₂, tk, rfl, e1, X1, rfl, sub, hz, hwr, hDr, hst⟩ := h₂
  refine hacc _ _ _ ?_
  dsimp only
  have hpush : Sub h₂ (h₂.push { cls := .type T, data := d }) := fun b o q => Heap.get?_push_of_some _ q
  refine newBlock X1 ok ⟨_, _, rfl⟩ (sub.trans hpush) (by simp; omega) fun cenv s₄ hC0 sub4 hz40 Y e4 => ?_
  have hC : cenv.locals = h₂.objs.size + 1 := hC0.trans (Heap.size_push ..)
  have hz4 : h₂.objs.size + 1 < s₄.heap.objs.size := by
    have : (h₂.push { cls := .type T, data := d }).objs.size < s₄.heap.objs.size := hz40
    rwa [Heap.size_push] at this
  have sub4 : Sub (h₂.push { cls := .type T, data := d }) s₄.heap := sub4
  have hD4 : s₄.heap.get? h₂.objs.size = some { cls := .type T, data := d } := sub4 _ _ (Heap.get?_push_size _ hd)
  have hDw : h₂.objs.size ∉ wr := fun hm => Nat.lt_irrefl _ (hwr _ hm).2
  have fresh : ∀ b, s₀.heap.objs.size ≤ b → B₁.get? b = none ∧ b ∉ ρ₁ := fun b hb => ⟨by
    cases q : B₁.get? b with
    | none => rfl
    | some o => exact absurd (Heap.lt_size (X1.stays _ _ q)) (Nat.not_lt.mpr hb), fun hm => absurd (X1.lt _ hm) (Nat.not_lt.mpr hb)⟩
  have nf : NoF W (h₂.objs.size :: wr) := fun b hb e he q => by
    have h1 := (X1.stk.at he q).1
    rcases List.mem_cons.mp hb with r | r
    · exact absurd h1 (Nat.not_lt.mpr (r ▸ hz))
    · exact absurd h1 (Nat.not_lt.mpr (hwr b r).1)
  have push2 : (h₂.push { cls := .type T, data := d }).objs.size = h₂.objs.size + 1 := Heap.size_push ..
  have nin : ∀ b, s₀.heap.objs.size ≤ b → b ≤ h₂.objs.size → b ∉ ρ₁ ++ compAddrs scope (h₂.push { cls := .type T, data := d }).objs.size := fun b hb hb2 hm => by
    rcases List.mem_append.mp hm with z | z
    · exact (fresh b hb).2 z
    · have := compAddrs_lt z
      rw [push2] at this
      exact absurd this (Nat.not_lt.mpr (Nat.le_succ_of_le hb2))
  have ap : Apart (h₂.objs.size :: wr) cenv.locals B₁ (ρ₁ ++ compAddrs scope (h₂.push { cls := .type T, data := d }).objs.size) s₄ := fun b hb => by
    rcases List.mem_cons.mp hb with e | e
    · subst e
      exact ⟨(fresh _ hz).1, nin _ hz (Nat.le_refl _), by rw [hC]; exact Nat.ne_of_lt (Nat.lt_succ_self _), Nat.lt_trans (Nat.lt_succ_self _) hz4⟩
    · have := hwr b e
      exact ⟨(fresh _ this.1).1, nin _ this.1 (Nat.le_of_lt this.2), by rw [hC]; exact Nat.ne_of_lt (Nat.lt_succ_of_lt this.2), Nat.lt_trans this.2 (Nat.lt_trans (Nat.lt_succ_self _) hz4)⟩
  have hDr4 : Draw W A' B₁ c.target I wr xs St := hDr A' hA.1
  have st4 : St 0 s₄.heap := hDr4.frame 0 h₂ _ hst (X1.stays.trans sub) Y.stays fun b hb o ho => sub4 _ _ (hpush _ _ ho)
  have lp : codeAny (model W.prog W.w) A' (.compLoop e 0 (.ref I) (.ref h₂.objs.size) { cenv with scope := relabel scope env }) (compPost (model W.prog W.w) A' E use Q (.ref h₂.objs.size) cenv.locals) s₄ := by
    refine loop ⟨s₀, X1, hz⟩ nf hDw hDr4 Y ap st4 hD4 fun B' ρ' s' σ₂ o hb2 ew Y' ap' hDo hrv => ?_
    rw [hb2] at hback
    unfold back at hback
    obtain ⟨hcz, hback⟩ := cond_tb hback
    obtain ⟨_, rfl⟩ := ok_inj hback
    have e5 : Ext cenv.locals B₁ ρ₁ s₀ B' ρ' s' := ew B₁ ρ₁ s₀ e4 (fun b hb => by
      rcases List.mem_cons.mp hb with e | e
      · subst e; exact hz
      · exact (hwr b e).1)
    obtain ⟨e6, Z⟩ := comp_back (env' := { cenv with scope := relabel scope env }) X1 e5 Y' (by show s₀.heap.objs.size ≤ cenv.locals; rw [hC]; exact Nat.le_succ_of_le hz) hcz
    have hDn : h₂.objs.size ∉ ρ₁ := (fresh _ hz).2
    have hDL : h₂.objs.size ≠ env.locals := fun q => absurd X1.Llt (Nat.not_lt.mpr (q ▸ hz))
    have F := Z.freeze (a := h₂.objs.size) hDo hDL (fun i m _ q => hDn (List.mem_of_getElem? q)) (fun e he q => absurd (X1.stk.at he q).1 (Nat.not_lt.mpr hz))
    have sub6 : Sub B' (addTo B' s'.heap h₂.objs.size) := fun b o' q => addTo_get (Z.stays b o' q) (.inl (by rw [q]; rfl))
    have e7 : Ext env.locals B₁ ρ₁ s₀ (addTo B' s'.heap h₂.objs.size) ρ₁ s' := by
      refine ⟨e6.sub.trans sub6, fun a o' h1 h2 => ?_, e6.rho, e6.keep, e6.size, e6.rest⟩
      rcases (addTo_of h1).2 with z | z
      · cases q : B'.get? a with
        | none => rw [q] at z; cases z
        | some o'' => exact e6.new a o'' q h2
      · rw [z]; exact .inr hz
    refine k _ ρ₁ s' _ cenv.locals (e1.trans e7) F (hrv _ sub6 (addTo_get hDo (.inr rfl))) (fun b hb => ?_) (by rw [hC]; exact Nat.le_succ_of_le (Nat.le_trans e1.size hz)) (fun b hb e he q => by rw [List.mem_singleton.mp hb, hC] at q; exact absurd (X1.stk.at he q).1 (Nat.not_lt.mpr (Nat.le_succ_of_le hz))) (by obtain ⟨m, hm, _⟩ := Y'.locs; exact ⟨m, hm⟩)
    rw [List.mem_singleton.mp hb]
    have hCs : s₀.heap.objs.size ≤ cenv.locals := by rw [hC]; exact Nat.le_succ_of_le hz
    refine ⟨?_, (fresh _ hCs).2, fun q => absurd X1.Llt (Nat.not_lt.mpr (q ▸ hCs)), ?_⟩
    · cases q : (addTo B' s'.heap h₂.objs.size).get? cenv.locals with
      | none => rfl
      | some o' =>
        rcases (addTo_of q).2 with z | z
        · rw [Y'.L.1] at z; cases z
        · rw [hC] at z; exact absurd z (Nat.succ_ne_self _)
    · have := Y'.Llt; exact this
  exact start lp fun {Q E} hq => hDr4.self 0 _ _ _ st4 hq
end
end

section
open PySem PySem.Calls PyProof.Rows PySem.W
set_option backward.match.sparseCases false
set_option maxRecDepth 100000
set_option linter.unusedVariables false
section
variable {W : Wd} {g : Gl} {B₀ B : Heap} {ρ : List Addr} {env : Env} {cx : Cx} {σ σ' : S} {s : Shared} {A' : Around} {n : Nat} {ih : Ih} {E : Value → Shared → Prop}
theorem comp_zero {c : Comprehension} (h : Nat.beq c.is_async.natAbs 0 = true) : c = ⟨c.target, c.iter, c.ifs, 0⟩ := by
  obtain ⟨t, i, f, a⟩ := c
  have := Nat.eq_of_beq_eq_true h
  have : a = 0 := by simpa using this
  subst this; rfl
theorem back_ok {loc : List (Str × A)} {n : Nat} {o : Out V} {v : V} (h : back loc n o = .ok v σ') : ∃ σ₂, o = .ok v σ₂ := by
  rcases o with ⟨a, σ₂⟩ | _ | _
  · obtain ⟨_, h⟩ := cond_tb h
    exact ⟨σ₂, by rw [(ok_inj h).1]⟩
  · exact bad_ok h
  · exact bad_ok h
theorem list_core (X : Sta W B₀ B ρ env cx σ s) (hb : BaseOk W g B₀) (H : IhOk W g B₀ ih n) (hA : Room W A' n) {elt : Expr} {c : Comprehension} {scope : Scope} {pos pos' : Pos} {first : Sem Value}
    {use : Option (Value → Sem Unit)} {Q : Value → Shared → Prop} {v : V} (hfirst : first = eval c.iter env) (h : exComp g ih cx σ elt c scope = .ok v σ')
    (k : ∀ B' ρ' s' acc C, Ext env.locals B ρ s B' ρ' s' → Sta W B₀ B' ρ' env cx σ' s' → RV W B' v acc → Apart [C] env.locals B' ρ' s' → s.heap.objs.size ≤ C → NoF W [C] → (∃ m, s'.heap.Ns C m) → compPost (model W.prog W.w) A' E use Q acc C (.ok .next) s') :
    wpAny (model W.prog W.w) A' (comprehension (.ListComp elt [c] scope pos) scope env pos' (newList []) false first use) Q E s := by
  obtain ⟨hz, h⟩ := cond_bt h
  have hz := Bool.and_eq_true_iff.mp (not_f hz)
  have hc := comp_zero hz.1
  obtain ⟨xs, σ₁, h1, h2⟩ := Out.bind_ok h
  refine comp_frame (d := .seq #[]) (T := "list") X hb H hA rfl hfirst hz.2 h1 (fun s Q E hq => wpAny_newList hq (by simp)) rfl (fun {B₁ ρ₁ ρ₂ s₄ I D wr St cenv R} hs0 nf hDw hDr Y ap st hD hR => ?_) (fun {it acc env' R s} hl hi => ?_) h2 k
  · obtain ⟨σ₂, h3⟩ := back_ok h2
    obtain ⟨ys, τ, ht, h4⟩ := Out.bind_ok h3
    obtain ⟨hl, h5⟩ := cond_tb h4
    obtain ⟨rfl, rfl⟩ := ok_inj h5
    have hle : ys.length ≤ 1100000 := Nat.le_of_ble_eq_true hl
    rw [hc]
    refine turns_sound H hA hDw nf hDr (acc := []) (items := #[]) (i := 0) (List.drop_zero ..) (Nat.zero_le _) ht (by unfold sizeLine; simp; omega) Y (Sub.refl _) ap st ⟨0, hD⟩ .nil
      fun B' ρ' s' items' ew Y' ap' hp hr => ?_
    obtain ⟨m, hm⟩ := hp
    exact hR B' ρ' s' τ _ h3 ew Y' ap' hm fun B'' sb hB'' => RV.newList hB'' (by simpa using hr.mono sb)
  · rw [hc] at hl ⊢
    exact codeAny_compStart_list hl (hi hl)
theorem dict_core (X : Sta W B₀ B ρ env cx σ s) (hb : BaseOk W g B₀) (H : IhOk W g B₀ ih n) (hA : Room W A' n) {kx vx : Expr} {c : Comprehension} {scope : Scope} {pos pos' : Pos} {first : Sem Value}
    {use : Option (Value → Sem Unit)} {Q : Value → Shared → Prop} {v : V} (hfirst : first = eval c.iter env) (h : exCompD g ih cx σ kx vx c scope = .ok v σ')
    (k : ∀ B' ρ' s' acc C, Ext env.locals B ρ s B' ρ' s' → Sta W B₀ B' ρ' env cx σ' s' → RV W B' v acc → Apart [C] env.locals B' ρ' s' → s.heap.objs.size ≤ C → NoF W [C] → (∃ m, s'.heap.Ns C m) → compPost (model W.prog W.w) A' E use Q acc C (.ok .next) s') :
    wpAny (model W.prog W.w) A' (comprehension (.DictComp kx vx [c] scope pos) scope env pos' newDict false first use) Q E s := by
  obtain ⟨hz, h⟩ := cond_bt h
  have hz := Bool.and_eq_true_iff.mp (not_f hz)
  have hc := comp_zero hz.1
  obtain ⟨xs, σ₁, h1, h2⟩ := Out.bind_ok h
  obtain ⟨hifs, h2⟩ := cond_tb h2
  have hifs := isEmpty_inv hifs
  refine comp_frame (d := .dict #[]) (T := "dict") X hb H hA rfl hfirst hz.2 h1 (fun s Q E hq => wpAny_newObj_type hq) rfl (fun {B₁ ρ₁ ρ₂ s₄ I D wr St cenv R} hs0 nf hDw hDr Y ap st hD hR => ?_) (fun {it acc env' R s} hl hi => ?_) h2 k
  · obtain ⟨σ₂, ht⟩ := back_ok h2
    rw [hc, hifs]
    have hmap : s₄.heap.MapOf (intKind W.prog W.w) D (fun _ => none) := by
      obtain ⟨o, es, ep, ho, r⟩ : (s₄.heap.push { cls := .type "dict", data := .dict #[] }).MapOf (intKind W.prog W.w) s₄.heap.objs.size (fun _ => none) := Heap.MapOf.new _
      rw [Heap.get?_push_size _ rfl] at ho
      obtain rfl := Option.some.inj ho
      exact ⟨_, es, ep, hD, r⟩
    have hnm : D ≠ sysModules := by
      obtain ⟨s₀, X0, hD0⟩ := hs0
      exact Nat.ne_of_gt (Nat.lt_of_lt_of_le (mods_lt hb X0) hD0)
    refine turnsD_sound H hA hDw nf hDr (i := 0) (List.drop_zero ..) (Nat.zero_le _) ht Y (Sub.refl _) ap st ⟨_, [], 0, hmap, (fun o es ep ho hd => ?_), Nat.le_refl _, .nil, fun _ => rfl, rfl⟩
      fun B' ρ' s' ks us hv ew Y' ap' hd => ?_
    · obtain rfl := Option.some.inj (hD.symm.trans ho)
      injection hd with hd
      rw [← hd]; exact Nat.le_refl _
    · obtain ⟨f, ws, m, ⟨o, es, ep, ho, r⟩, h2, h3, h4, h5, h6⟩ := hd
      refine hR B' ρ' s' σ₂ o ht ew Y' ap' ho fun B'' sb hB'' => ?_
      rw [hv]
      exact .dictI ⟨o, es, ep, hB'', r⟩ hnm (h4.mono sb) h5
  · rw [hc] at hl ⊢
    exact codeAny_compStart_dict hl (hi hl)
theorem listComp_sound (X : Sta W B₀ B ρ env cx σ s) (hb : BaseOk W g B₀) (H : IhOk W g B₀ ih n) (hA : Room W A' n) {elt : Expr} {c : Comprehension} {scope : Scope} {pos : Pos} {v : V}
    (h : exComp g ih cx σ elt c scope = .ok v σ') : wpAny (model W.prog W.w) A' (eval (.ListComp elt [c] scope pos) env) (Good W B₀ env cx B ρ s σ' fun B' _ x => RV W B' v x) E s := by
  have ha : firstAsync [c] = false := by
    rw [comp_zero (Bool.and_eq_true_iff.mp (not_f (cond_bt h).1)).1]; rfl
  rw [eval_ListComp, ha]
  refine list_core X hb H hA (by cases c; rfl) h fun B' ρ' s' acc C e1 st1 r ap hsz nf hn => ?_
  obtain ⟨m, hm⟩ := hn
  refine ⟨m, hm, fun h' hs => ?_⟩
  have hz : s'.heap.objs.size ≤ h'.objs.size := Nat.le_of_eq hs.1.symm
  have hk : Keep [C] s'.heap h' := fun b o hb e => (hs.2 b fun q => hb (by simp [q])).trans e
  exact ⟨B', ρ', e1.moved (k := s'.toks) hk hz (fun b hb => by rw [List.mem_singleton.mp hb]; exact hsz), st1.moved (k := s'.toks) nf ap hk hz, r⟩
theorem eval_DictComp (kx vx : Expr) (gens scope pos) : eval (.DictComp kx vx gens scope pos) env =
    comprehension (.DictComp kx vx gens scope pos) scope env (firstIterPos gens pos) newDict (firstAsync gens) (firstIter gens env) := rfl
theorem dictComp_sound (X : Sta W B₀ B ρ env cx σ s) (hb : BaseOk W g B₀) (H : IhOk W g B₀ ih n) (hA : Room W A' n) {kx vx : Expr} {c : Comprehension} {scope : Scope} {pos : Pos} {v : V}
    (h : exCompD g ih cx σ kx vx c scope = .ok v σ') : wpAny (model W.prog W.w) A' (eval (.DictComp kx vx [c] scope pos) env) (Good W B₀ env cx B ρ s σ' fun B' _ x => RV W B' v x) E s := by
  have ha : firstAsync [c] = false := by
    rw [comp_zero (Bool.and_eq_true_iff.mp (not_f (cond_bt h).1)).1]; rfl
  rw [eval_DictComp, ha]
  refine dict_core X hb H hA (by cases c; rfl) h fun B' ρ' s' acc C e1 st1 r ap hsz nf hn => ?_
  obtain ⟨m, hm⟩ := hn
  refine ⟨m, hm, fun h' hs => ?_⟩
  have hz : s'.heap.objs.size ≤ h'.objs.size := Nat.le_of_eq hs.1.symm
  have hk : Keep [C] s'.heap h' := fun b o hb e => (hs.2 b fun q => hb (by simp [q])).trans e
  exact ⟨B', ρ', e1.moved (k := s'.toks) hk hz (fun b hb => by rw [List.mem_singleton.mp hb]; exact hsz), st1.moved (k := s'.toks) nf ap hk hz, r⟩
end
end

section
open PySem PySem.Calls PyProof.Rows PySem.W
set_option backward.match.sparseCases false
set_option maxRecDepth 100000
set_option linter.unusedVariables false
section
variable {W : Wd} {g : Gl} {B₀ B : Heap} {ρ : List Addr} {env : Env} {cx : Cx} {σ σ' : S} {s : Shared} {A' : Around} {n : Nat} {ih : Ih} {E : Value → Shared → Prop}
theorem marks_false {op : CmpOp} {r : Expr} (h : isSetE r = false) : behindInMarks op r = false := by
  cases r <;> first | rfl | cases h
theorem exCmp_sound (hb : BaseOk W g B₀) (H : IhOk W g B₀ ih n) (hA : Room W A' n) (X : Sta W B₀ B ρ env cx σ s) {l r : Expr} {op : CmpOp} {c : Bool} {Q : Value → Shared → Prop} (h : exCmp g ih cx σ l op r = .ok c σ')
    (k : ∀ B₁ ρ₁ s₁, Ext env.locals B ρ s B₁ ρ₁ s₁ → Sta W B₀ B₁ ρ₁ env cx σ' s₁ → Q (.bool c) s₁) :
    behindInMarks op r = false ∧ wpAny (model W.prog W.w) A' (eval l env) (fun a s₁ => wpAny (model W.prog W.w) A' (eval r env) (fun b s₂ => wpAny (model W.prog W.w) A' (compareOp op a b) Q E s₂) E s₁) E s := by
  obtain ⟨hs, h⟩ := cond_bt h
  refine ⟨marks_false hs, ?_⟩
  obtain ⟨a, σ₁, h1, h2⟩ := Out.bindV_ok h
  refine exV H h1 hA X fun B₁ ρ₁ s₁ x e1 st1 ra => ?_
  rcases q : (placeOf g cx σ₁ r).bind fun p => thaw p.2.2 with _ | v <;> rw [q] at h2
  · obtain ⟨b, σ₂, h3, h4⟩ := Out.bindV_ok h2
    obtain ⟨h5, rfl⟩ := Out.of_ok h4
    refine exV H h3 hA st1 fun B₂ ρ₂ s₂ y e2 st2 rb => ?_
    exact cmp_sound hA st2 (ra.mono e2.sub) rb h5 fun t => k _ _ _ ((e1.trans e2).trans (Ext.grow (Sub.refl _) (Nat.le_refl _))) (st2.grow (Sub.refl _) (Nat.le_refl _))
  · obtain ⟨h5, rfl⟩ := Out.of_ok h2
    obtain ⟨p, hp, hv⟩ := obind q
    refine place_load hb st1 hp fun ad a1 a2 a3 a4 => ?_
    obtain ⟨Y, sb, hR⟩ := st1.thawed a1 a3 hv
    exact cmp_sound hA Y (ra.mono sb) hR h5 fun t => k _ _ _ (e1.trans (Ext.grow (Sub.refl _) (Nat.le_refl _))) (st1.grow (Sub.refl _) (Nat.le_refl _))
theorem raw_val {o : Option A} {v : V} (h : o.bind valOf = some v) : o = some (.val v) := by
  obtain ⟨a, h1, h2⟩ := obind h
  exact valOf_inv h2 ▸ h1
theorem fnCall_sound (hb : BaseOk W g B₀) (H : IhOk W g B₀ ih n) (hA : Room W A' n) (X : Sta W B₀ B ρ env cx σ s) {x nm : Str} {p : Pos} {es : List Expr} {pos : Pos} {a : A} (hr : readRaw g cx σ x = some (.val (.fn nm))) (h : fnCall g ih cx σ nm es = .ok a σ') :
    wpAny (model W.prog W.w) A' (eval (.Call (.Name x p) es [] pos) env) (Good W B₀ env cx B ρ s σ' fun B' ρ' y => RA W B' ρ' a y) No s := by
  obtain ⟨hf, h⟩ := cond_bt h
  have hf := Option.isSome_iff_exists.mp (not_f hf)
  obtain ⟨as, σ₁, h1, h2⟩ := Out.bind_ok h
  have h1 := noX_ok h1
  rcases hv : valsOf as with _ | vs <;> rw [hv] at h2
  · rcases h3 : ih.call σ₁.mem nm as with ⟨v, σ₂⟩ | _ | _ <;> rw [h3] at h2
    · obtain ⟨rfl, rfl⟩ := ok_inj h2
      exact def_call hb H hA X hr h1 h3 hf
    · exact exc_ok h2
    · exact bad_ok h2
  · obtain ⟨v, σ₂, h3, h4⟩ := Out.bind_ok h2
    obtain ⟨rfl, rfl⟩ := ok_inj h4
    exact def_call0 hb H hA X hr h1 hv (noX_ok h3) hf
inductive NxtR (σ₁ : S) (i : Nat) (a : A) (σ' : S) : Prop
  | mk (x : V) (r : List V) (h1 : σ₁.mem[i]? = some (some (.itr (x :: r)))) (h2 : a = .val x) (h3 : σ' = ⟨σ₁.loc, σ₁.mem.set i (some (.itr r))⟩)
theorem nxt_r {σ₁ : S} {i : Nat} {a : A} (h : nextAt σ₁ i = .ok a σ') : NxtR σ₁ i a σ' := by
  obtain ⟨xs, h1, h2⟩ := optB_ok h
  obtain ⟨m, h3, h4⟩ := obind h1
  obtain rfl := itrOf_inv h4
  rcases xs with _ | ⟨x, r⟩
  · exact exc_ok h2
  · obtain ⟨h5, h6⟩ := ok_inj h2
    exact ⟨x, r, at_some h3, h5.symm, h6.symm⟩
theorem bfCall_sound (hb : BaseOk W g B₀) (H : IhOk W g B₀ ih n) (hA : Room W A' n) (X : Sta W B₀ B ρ env cx σ s) {x : Str} {p : Pos} {b : Bf} {e : Expr} {pos : Pos} {a : A} (hr : readRaw g cx σ x = some (.val (.bf b))) (hs : starred e = false) (h : bfCall g ih cx σ b e = .ok a σ') :
    wpAny (model W.prog W.w) A' (eval (.Call (.Name x p) [e] [] pos) env) (Good W B₀ env cx B ρ s σ' fun B' ρ' y => RA W B' ρ' a y) No s := by
  have plain : (noX ((ih.ex cx σ e).bindV fun v σ₁ => Out.of ((bfun b v).map A.val) σ₁)) = .ok a σ' →
      wpAny (model W.prog W.w) A' (eval (.Call (.Name x p) [e] [] pos) env) (Good W B₀ env cx B ρ s σ' fun B' ρ' y => RA W B' ρ' a y) No s := fun h => by
    obtain ⟨v, σ₁, h1, h2⟩ := Out.bindV_ok (noX_ok h)
    obtain ⟨c, h3, rfl, rfl⟩ := ofVal_ok h2
    exact bf_call hb H hA X hr hs h1 h3
  rcases b with ⟨⟩
  case iter =>
    obtain ⟨v, σ₁, h1, h2⟩ := Out.bindV_ok (noX_ok h)
    obtain ⟨xs, h3, h4⟩ := optB_ok h2
    obtain ⟨xs', rfl, h5⟩ := onL_inv h3
    obtain rfl := Option.some.inj h5
    obtain ⟨rfl, rfl⟩ := ok_inj h4
    exact iter_call hb H hA X hr hs h1
  case next =>
    obtain ⟨a₁, σ₁, h1, h2⟩ := Out.bind_ok h
    obtain ⟨i, h3, h4⟩ := optB_ok h2
    obtain rfl := plcOf_inv h3
    obtain ⟨x, r, h5, rfl, rfl⟩ := nxt_r h4
    exact next_call hb H hA X hr hs (noX_ok h1) h5
  case sorted =>
    change sortGo g ih cx σ e = _ at h
    unfold sortGo at h
    rcases q : argOf g cx isSetB σ e with _ | e' <;> rw [q] at h
    · exact plain h
    · obtain ⟨hs', h⟩ := cond_bt h
      obtain ⟨v, σ₁, h1, h2⟩ := Out.bindV_ok (noX_ok h)
      obtain ⟨c, h3, rfl, rfl⟩ := ofVal_ok h2
      obtain ⟨x', p', q', rfl, hr'⟩ := set_inv q
      exact sorted_set_call hb H hA X hr hr' hs' h1 h3
  case len =>
    change lenGo g ih cx σ e = _ at h
    unfold lenGo at h
    rcases q : lstAt g cx σ e with _ | u <;> rw [q] at h
    · exact plain h
    · obtain ⟨hz, h⟩ := cond_tb h
      obtain ⟨rfl, rfl⟩ := ok_inj h
      exact len_call hb X hr hs q hz
  all_goals exact plain h
theorem name_call (hb : BaseOk W g B₀) (H : IhOk W g B₀ ih n) (hA : Room W A' n) (X : Sta W B₀ B ρ env cx σ s) {x : Str} {p : Pos} {es : List Expr} {pos : Pos} {a : A} (h : exCall g ih cx σ (.Name x p) es pos = .ok a σ') :
    wpAny (model W.prog W.w) A' (eval (.Call (.Name x p) es [] pos) env) (Good W B₀ env cx B ρ s σ' fun B' ρ' y => RA W B' ρ' a y) No s := by
  obtain ⟨v, hr, h⟩ := optB_ok h
  rcases q : fnOf? v with _ | nm <;> rw [q] at h
  · obtain ⟨b, h1, h3⟩ := optB_ok h
    obtain ⟨e, h2, h4⟩ := optB_ok h3
    obtain ⟨hs, h5⟩ := cond_bt h4
    obtain rfl := bfOf_inv h1
    obtain rfl := one_inv h2
    exact bfCall_sound hb H hA X (raw_val hr) hs h5
  · obtain rfl := fnOf_inv q
    exact fnCall_sound hb H hA X (raw_val hr) h
theorem exPlain_elim {P : Expr → Prop} {e : Expr} {a : A} (h : exPlain g ih cx σ e = .ok a σ')
    (h1 : ∀ c k p, Out.of ((constOf c).map A.val) σ = .ok a σ' → P (.Constant c k p)) (h2 : ∀ x p, readName g cx σ x = .ok a σ' → P (.Name x p))
    (h3 : ∀ op x p, cond (isNeg op) (optB ((constE x).bind intC) fun i => .ok (.val (.int (-i))) σ) .bad = .ok a σ' → P (.UnaryOp op x p))
    (h4 : ∀ t x y p, ((ih.tr cx σ t).bind fun c σ₁ => match c with | true => ih.ex cx σ₁ x | false => ih.ex cx σ₁ y) = .ok a σ' → P (.IfExp t x y p))
    (h5 : ∀ l ops rs p, (optB (one ops) fun op => optB (one rs) fun r => (exCmp g ih cx σ l op r).bind fun b σ₁ => .ok (.val (.bool b)) σ₁) = .ok a σ' → P (.Compare l ops rs p))
    (h6 : ∀ es p, ((exF ih cx σ (.List es p)).bind fun m σ₁ => Out.of ((thaw m).map A.val) σ₁) = .ok a σ' → P (.List es p))
    (h7 : ∀ es k p, ((exVs ih cx σ es).bind fun vs σ₁ => cond (Nat.ble vs.length lim) (.ok (.val (.tup vs)) σ₁) .bad) = .ok a σ' → P (.Tuple es k p))
    (h8 : ∀ elt cs scope p, (optB (one cs) fun c => (exComp g ih cx σ elt c scope).bind fun v σ₁ => .ok (.val v) σ₁) = .ok a σ' → P (.ListComp elt cs scope p))
    (h9 : ∀ k v cs scope p, (optB (one cs) fun c => (exCompD g ih cx σ k v c scope).bind fun v σ₁ => .ok (.val v) σ₁) = .ok a σ' → P (.DictComp k v cs scope p))
    (h10 : ∀ l op r p, ((ih.ex cx σ l).bindV fun a σ₁ => (ih.ex cx σ₁ r).bindV fun b σ₂ => Out.of ((binop op a b).map A.val) σ₂) = .ok a σ' → P (.BinOp l op r p)) : P e := by
  rcases e with ⟨⟩
  case Constant => exact h1 _ _ _ h
  case Name => exact h2 _ _ h
  case UnaryOp => exact h3 _ _ _ h
  case IfExp => exact h4 _ _ _ _ h
  case Compare => exact h5 _ _ _ _ h
  case List => exact h6 _ _ h
  case Tuple => exact h7 _ _ _ h
  case ListComp => exact h8 _ _ _ _ h
  case DictComp => exact h9 _ _ _ _ _ h
  case BinOp => exact h10 _ _ _ _ h
  all_goals exact bad_ok h
theorem const_sound (X : Sta W B₀ B ρ env cx σ s) {c : Const} {k} {p : Pos} {a : A} (h : Out.of ((constOf c).map A.val) σ = .ok a σ') :
    wpAny (model W.prog W.w) A' (eval (.Constant c k p) env) (Good W B₀ env cx B ρ s σ' fun B' ρ' y => RA W B' ρ' a y) No s := by
  obtain ⟨v, h1, rfl, rfl⟩ := ofVal_ok h
  rcases c with ⟨⟩ <;> first | exact nos h1 | skip
  · exact Option.some.inj h1 ▸ wpAny_Constant_none ⟨B, ρ, Ext.refl .., X, .val .none⟩
  · exact Option.some.inj h1 ▸ wpAny_Constant_bool ⟨B, ρ, Ext.refl .., X, .val .bool⟩
  · exact Option.some.inj h1 ▸ wpAny_Constant_int ⟨B, ρ, Ext.grow (Sub.refl _) (Nat.le_refl _), X.grow (Sub.refl _) (Nat.le_refl _), .val .int⟩
  · exact Option.some.inj h1 ▸ wpAny_Constant_str ⟨B, ρ, Ext.grow (Sub.refl _) (Nat.le_refl _), X.grow (Sub.refl _) (Nat.le_refl _), .val .str⟩
theorem tuple_expr (H : IhOk W g B₀ ih n) (hA : Room W A' n) (X : Sta W B₀ B ρ env cx σ s) {es : List Expr} {k} {p : Pos} {vs : List V} (h1 : exVs ih cx σ es = .ok vs σ') (hle : vs.length ≤ 1100000) :
    wpAny (model W.prog W.w) A' (eval (.Tuple es k p) env) (Good W B₀ env cx B ρ s σ' fun B' ρ' y => RA W B' ρ' (.val (.tup vs)) y) No s := by
  refine Tuple_ (good_step (β := Value) (exVs_sound H hA _ h1 X) fun B₁ ρ₁ s₁ xs e1 st1 r1 => ?_)
  refine wpAny_newTuple ?_ (by rw [← r1.length]; unfold sizeLine; omega)
  obtain ⟨B', e2, Y, hB⟩ := st1.made (k := s₁.toks) (h' := s₁.heap.push { cls := .type "tuple", data := .seq xs.toArray }) (fun b o' q => Heap.get?_push_of_some _ q) (by simp) (Heap.get?_push_size _ rfl) (Nat.le_refl _)
  exact ⟨B', ρ₁, e1.trans e2, Y, .val (.tup ⟨_, hB, rfl, _, rfl⟩ (by simpa using r1.mono e2.sub))⟩
theorem exCall_sound (hb : BaseOk W g B₀) (H : IhOk W g B₀ ih n) (hA : Room W A' n) (X : Sta W B₀ B ρ env cx σ s) {f : Expr} {es : List Expr} {pos : Pos} {a : A} (h : exCall g ih cx σ f es pos = .ok a σ') :
    wpAny (model W.prog W.w) A' (eval (.Call f es [] pos) env) (Good W B₀ env cx B ρ s σ' fun B' ρ' y => RA W B' ρ' a y) No s := by
  rcases f with ⟨⟩
  case Attribute o nm apos =>
    obtain ⟨m, hm, h⟩ := optB_ok h
    obtain ⟨hk, h⟩ := cond_bt h
    obtain ⟨ov, σ₁, h1, h2⟩ := Out.bindV_ok (noX_ok h)
    obtain ⟨as, σ₂, h3, h4⟩ := Out.bind_ok h2
    obtain ⟨v, h5, rfl, rfl⟩ := ofVal_ok h4
    exact meth_sound H hA X hm (not_f hk) h1 h3 h5
  case Name x p => exact name_call hb H hA X h
  all_goals exact bad_ok h
theorem exPlain_sound (hb : BaseOk W g B₀) (H : IhOk W g B₀ ih n) (hA : Room W A' n) (X : Sta W B₀ B ρ env cx σ s) {e : Expr} {a : A} (h : exPlain g ih cx σ e = .ok a σ') :
    wpAny (model W.prog W.w) A' (eval e env) (Good W B₀ env cx B ρ s σ' fun B' ρ' y => RA W B' ρ' a y) No s := by
  refine exPlain_elim (P := fun e => wpAny (model W.prog W.w) A' (eval e env) (Good W B₀ env cx B ρ s σ' fun B' ρ' y => RA W B' ρ' a y) No s) h (fun c k p h => const_sound X h) (fun x p h => ?_) (fun op x p h => ?_) (fun t x y p h => ?_) (fun l ops rs p h => ?_) (fun es p h => ?_) (fun es k p h => ?_) (fun elt cs scope p h => ?_) (fun k v cs scope p h => ?_) (fun l op r p h => ?_)
  · exact name_eval hb X h fun B' v e1 st1 r1 => ⟨B', ρ, e1, st1, r1⟩
  · obtain ⟨ho, h⟩ := cond_tb h
    obtain ⟨i, h1, h⟩ := optB_ok h
    obtain ⟨rfl, rfl⟩ := ok_inj h
    obtain ⟨c, h2, h3⟩ := obind h1
    obtain ⟨k, p, rfl⟩ := constE_inv h2
    obtain rfl := intC_inv h3
    rcases op with ⟨⟩
    case USub =>
      refine wpAny_UnaryOp (wpAny_Constant_int (PySem.P.neg_int ?_))
      exact ⟨B, ρ, Ext.grow (Sub.refl _) (Nat.le_refl _), X.grow (Sub.refl _) (Nat.le_refl _), .val .int⟩
    all_goals exact ff_tt ho
  · obtain ⟨c, σ₁, h1, h2⟩ := Out.bind_ok h
    refine wpAny_IfExp (good_step (β := Bool) (H.tr _ _ _ _ _ h1 _ _ _ _ _ hA X) fun B₁ ρ₁ s₁ x e1 st1 hx => ?_)
    rw [hx]
    cases c with
    | true => exact wpAny_mono (H.ex _ _ _ _ _ h2 _ _ _ _ _ hA st1) (fun _ _ hg => hg.ext e1) fun _ _ f => f
    | false => exact wpAny_mono (H.ex _ _ _ _ _ h2 _ _ _ _ _ hA st1) (fun _ _ hg => hg.ext e1) fun _ _ f => f
  · obtain ⟨op, g1, h⟩ := optB_ok h
    obtain ⟨r, g2, h⟩ := optB_ok h
    obtain ⟨c, σ₁, h1, h2⟩ := Out.bind_ok h
    obtain ⟨rfl, rfl⟩ := ok_inj h2
    obtain rfl := one_inv g1
    obtain rfl := one_inv g2
    obtain ⟨hm, hw⟩ := exCmp_sound (E := No) hb H hA X h1 (Q := Good W B₀ env cx B ρ s σ₁ fun B' ρ' y => RA W B' ρ' (.val (.bool c)) y) fun B₁ ρ₁ s₁ e1 st1 => ⟨B₁, ρ₁, e1, st1, .val .bool⟩
    exact wpAny_Compare1 hw hm
  · obtain ⟨m, σ₁, h1, h2⟩ := Out.bind_ok h
    obtain ⟨v, h3, rfl, rfl⟩ := ofVal_ok h2
    exact wpAny_mono (exF_sound hb H hA X h1) (fun x s' hx => fresh_val hx h3) fun _ _ e => e
  · obtain ⟨vs, σ₁, h1, h2⟩ := Out.bind_ok h
    obtain ⟨hz, h2⟩ := cond_tb h2
    obtain ⟨rfl, rfl⟩ := ok_inj h2
    exact tuple_expr H hA X h1 (Nat.le_of_ble_eq_true hz)
  · obtain ⟨c, g1, h⟩ := optB_ok h
    obtain ⟨v, σ₁, h1, h2⟩ := Out.bind_ok h
    obtain ⟨rfl, rfl⟩ := ok_inj h2
    obtain rfl := one_inv g1
    exact good_step (β := Value) (listComp_sound X hb H hA h1) fun B₁ ρ₁ s₁ x e1 st1 r1 => ⟨B₁, ρ₁, e1, st1, .val r1⟩
  · obtain ⟨c, g1, h⟩ := optB_ok h
    obtain ⟨v, σ₁, h1, h2⟩ := Out.bind_ok h
    obtain ⟨rfl, rfl⟩ := ok_inj h2
    obtain rfl := one_inv g1
    exact good_step (β := Value) (dictComp_sound X hb H hA h1) fun B₁ ρ₁ s₁ x e1 st1 r1 => ⟨B₁, ρ₁, e1, st1, .val r1⟩
  · obtain ⟨v, σ₁, h1, h2⟩ := Out.bindV_ok h
    obtain ⟨u, σ₂, h3, h4⟩ := Out.bindV_ok h2
    obtain ⟨c, h5, rfl, rfl⟩ := ofVal_ok h4
    refine wpAny_BinOp (exV H h1 hA X fun B₁ ρ₁ s₁ x e1 st1 r1 => exV H h3 hA st1 fun B₂ ρ₂ s₂ y e2 st2 r2 => ?_)
    exact binop_sound st2 (r1.mono e2.sub) r2 h5 fun B' s' v e3 st3 r3 => ⟨B', ρ₂, (e1.trans e2).trans e3, st3, .val r3⟩
theorem exStep_elim {P : Expr → Prop} {e : Expr} {o : Out A} (h : exStep g ih cx σ e = o) (h1 : ∀ o' i p, exSub g ih cx σ o' i = o → P (.Subscript o' i p)) (h2 : ∀ f es ks p, cond ks.isEmpty (exCall g ih cx σ f es p) .bad = o → P (.Call f es ks p))
    (h3 : ∀ e, noX (exPlain g ih cx σ e) = o → P e) : P e := by
  rcases e with ⟨⟩
  case Subscript => exact h1 _ _ _ h
  case Call => exact h2 _ _ _ _ h
  all_goals exact h3 _ h
theorem exStep_sound (hb : BaseOk W g B₀) (H : IhOk W g B₀ ih n) (hA : Room W A' n) (X : Sta W B₀ B ρ env cx σ s) {e : Expr} {a : A} (h : exStep g ih cx σ e = .ok a σ') :
    wpAny (model W.prog W.w) A' (eval e env) (Good W B₀ env cx B ρ s σ' fun B' ρ' y => RA W B' ρ' a y) No s :=
  exStep_elim (P := fun e => wpAny (model W.prog W.w) A' (eval e env) (Good W B₀ env cx B ρ s σ' fun B' ρ' y => RA W B' ρ' a y) No s) h (fun o i p h => sub_sound hb H hA X h) (fun f es ks p h => by
    obtain ⟨hk, h1⟩ := cond_tb h
    obtain rfl := isEmpty_inv hk
    exact exCall_sound hb H hA X h1) fun e h => exPlain_sound hb H hA X (noX_ok h)
theorem allT_sound (H : IhOk W g B₀ ih n) (hA : Room W A' n) {es : List Expr} {σ : S} {B ρ s} {b : Bool} (h : allT ih cx σ es = .ok b σ') (X : Sta W B₀ B ρ env cx σ s) :
    wpAny (model W.prog W.w) A' (allTrue .And es env) (Good W B₀ env cx B ρ s σ' fun _ _ x => x = b) No s := by
  induction es generalizing σ B ρ s with
  | nil =>
    obtain ⟨rfl, rfl⟩ := ok_inj h
    exact wpAny_allTrue_And_nil ⟨B, ρ, Ext.refl .., X, rfl⟩
  | cons t ts ih' =>
    obtain ⟨c, σ₁, h1, h2⟩ := Out.bind_ok h
    refine wpAny_allTrue_And_cons (good_step (β := Bool) (H.tr _ _ _ _ _ h1 _ _ _ _ _ hA X) fun B₁ ρ₁ s₁ x e1 st1 hx => ?_)
    rw [hx]
    cases c with
    | true => exact wpAny_mono (ih' h2 st1) (fun _ _ hg => hg.ext e1) fun _ _ f => f
    | false => obtain ⟨rfl, rfl⟩ := ok_inj h2; exact ⟨B₁, ρ₁, e1, st1, rfl⟩
theorem trStep_elim {P : Expr → Prop} {e : Expr} {b : Bool} (h : trStep g ih cx σ e = .ok b σ')
    (h1 : ∀ op x p, cond (isNotO op) ((ih.tr cx σ x).bind fun b σ₁ => .ok (!b) σ₁) .bad = .ok b σ' → P (.UnaryOp op x p)) (h2 : ∀ op es p, cond (isAndO op) (allT ih cx σ es) .bad = .ok b σ' → P (.BoolOp op es p))
    (h3 : ∀ l ops rs p, (optB (one ops) fun op => optB (one rs) fun r => exCmp g ih cx σ l op r) = .ok b σ' → P (.Compare l ops rs p))
    (h4 : ∀ e, (∀ env, isTrue e env (eval e env) = do let v ← eval e env; standAt e.pos; holding [v] (truthy v)) → ((ih.ex cx σ e).bindV fun v σ₁ => Out.of (truth v) σ₁) = .ok b σ' → P e)
    (h5 : ∀ c k p, Out.of (boolC c) σ = .ok b σ' → P (.Constant c k p)) : P e := by
  rcases e with ⟨⟩
  case UnaryOp => exact h1 _ _ _ h
  case BoolOp => exact h2 _ _ _ h
  case Compare => exact h3 _ _ _ _ h
  case Name => exact h4 _ (fun _ => rfl) h
  case Call => exact h4 _ (fun _ => rfl) h
  case BinOp => exact h4 _ (fun _ => rfl) h
  case Constant => exact h5 _ _ _ h
  all_goals exact bad_ok h
theorem trStep_sound (hb : BaseOk W g B₀) (H : IhOk W g B₀ ih n) (hA : Room W A' n) (X : Sta W B₀ B ρ env cx σ s) {e : Expr} {b : Bool} (h : trStep g ih cx σ e = .ok b σ') :
    wpAny (model W.prog W.w) A' (isTrue e env (eval e env)) (Good W B₀ env cx B ρ s σ' fun _ _ x => x = b) No s := by
  refine trStep_elim (P := fun e => wpAny (model W.prog W.w) A' (isTrue e env (eval e env)) (Good W B₀ env cx B ρ s σ' fun _ _ x => x = b) No s) h (fun op x p h => ?_) (fun op es p h => ?_) (fun l ops rs p h => ?_) (fun e he h => ?_) (fun c k p h => ?_)
  · obtain ⟨ho, h⟩ := cond_tb h
    obtain ⟨c, σ₁, h1, h2⟩ := Out.bind_ok h
    obtain ⟨rfl, rfl⟩ := ok_inj h2
    rcases op with ⟨⟩
    case Not => exact wpAny_isTrue_Not (good_step (β := Bool) (H.tr _ _ _ _ _ h1 _ _ _ _ _ hA X) fun B₁ ρ₁ s₁ x e1 st1 hx => ⟨B₁, ρ₁, e1, st1, congrArg _ hx⟩)
    all_goals exact ff_tt ho
  · obtain ⟨ho, h⟩ := cond_tb h
    rcases op with ⟨⟩
    case And => exact wpAny_isTrue_BoolOp (allT_sound H hA h X)
    all_goals exact ff_tt ho
  · obtain ⟨op, g1, h1⟩ := optB_ok h
    obtain ⟨r, g2, h2⟩ := optB_ok h1
    obtain rfl := one_inv g1
    obtain rfl := one_inv g2
    obtain ⟨hm, hw⟩ := exCmp_sound (E := No) hb H hA X h2 (Q := fun c s₃ => wpAny (model W.prog W.w) A' (truthy c) (Good W B₀ env cx B ρ s σ' fun _ _ x => x = b) No s₃) fun B₁ ρ₁ s₁ e1 st1 => wpAny_truthy_bool ⟨B₁, ρ₁, e1, st1, rfl⟩
    exact wpAny_isTrue_Compare1 hw hm
  · obtain ⟨v, σ₁, h1, h2⟩ := Out.bindV_ok h
    obtain ⟨h3, rfl⟩ := Out.of_ok h2
    refine wpAny_isTrue_value (exV H h1 hA X fun B₁ ρ₁ s₁ x e1 st1 r1 => ?_) (he env)
    exact truth_sound r1 h3 fun t => ⟨B₁, ρ₁, e1.trans (Ext.grow (Sub.refl _) (Nat.le_refl _)), st1.grow (Sub.refl _) (Nat.le_refl _), rfl⟩
  · obtain ⟨h1, rfl⟩ := Out.of_ok h
    obtain rfl := boolC_inv h1
    exact wpAny_isTrue_value (wpAny_Constant_bool (wpAny_truthy_bool ⟨B, ρ, Ext.refl .., X, rfl⟩)) rfl
end
end

section
open PySem PySem.Calls PyProof.Rows PySem.W
set_option backward.match.sparseCases false
set_option maxRecDepth 100000
set_option linter.unusedVariables false
section
variable {prog : Program} {w : World} {A : Around} {E : Value → Shared → Prop} {s : Shared}
theorem setItem_plain {l : Addr} {items : Array Value} {k : Int} {t : Tok} {v : Value} {Q : Unit → Shared → Prop} (hl : s.heap.PlainList l items)
    (h0 : 0 ≤ k) (hfit : k < 2 ^ 63) (hn : k < items.size)
    (hQ : ∀ h', h'.PlainList l (items.setIfInBounds k.toNat v) → Heap.SameBut l s.heap h' → Q () { s with heap := h' }) :
    wpAny (model prog w) A (setItem (.ref l) (.int k t) v) Q E s := by
  obtain ⟨ne, ho⟩ := hl
  have hT : s.TypeIs (.ref l) "list" := ⟨_, ho, rfl⟩
  unfold setItem
  try with_reducible refine wpAny_holding ?_
  first | refine wpAny_bind (wpAny_pure ?_) | skip
  refine wpAny_bind (wpAny_sequenceKey hT (by decide) ?_)
  refine wpAny_bind (wpAny_callSpecial?_slot (name := Str.ofString "__setitem__") hT slot_list_setitem
    (wpAny_call_entry slot_list_setitem hT entry_list_setitem ?_ (args_list_setitem _ _ _)))
  show wpAny _ _ (Builtin.List.listSubscript? (.int k t) >>= _) _ _ s
  refine wpAny_bind (wpAny_listSubscript_int (fitsIndex_of h0 hfit) ?_)
  clear hfit
  obtain ⟨j, rfl⟩ := Int.eq_ofNat_of_zero_le h0
  have hj : j < items.size := by omega
  have hx' : items[j]? = some items[j] := Array.getElem?_eq_getElem hj
  show wpAny _ _ ((seqItemAt l j >>= fun r => pure (r.map (j, ·))) >>= _) _ _ s
  refine wpAny_bind (wpAny_bind (wpAny_seqItemAt ho rfl (wpAny_pure ?_)))
  rw [hx']
  show wpAny _ _ (setSeqItemAt l j v >>= _) _ _ s
  have hfin : (s.heap.update l (Obj.mapSeq (·.setIfInBounds j v))).PlainList l (items.setIfInBounds j v) := ⟨_, (IsL.update (n := ne) ho _)⟩
  refine wpAny_bind (wpAny_setSeqItemAt ho rfl ?_)
  first
    | exact wpAny_bind (wpAny_pure (wpAny_pure ⟨.none, rfl, wpAny_pure (hQ _ hfin (Heap.SameBut.update ..))⟩))
    | exact wpAny_pure ⟨.none, rfl, wpAny_pure (hQ _ hfin (Heap.SameBut.update ..))⟩
theorem list_extendW (l : Addr) (items : Array Value) (n : Nat) (b : Addr) (items2 : Array Value) (n2 : Nat) (sl : Array (Option Value)) (hc0 : ¬(!items.isEmpty && Builtin.List.listTooLong (items.size + items2.size)) = true) (hc1 : items.size ≤ sizeLine) (hs2 : items.size + items2.size ≤ sizeLine + 1) :
    Meets (Builtin.«list.extend» ⟨[.ref l, .ref b], []⟩) (fun _ R s => s.heap.get? l = some { cls := .type "list", dict := none, data := .seq items n, slots := #[] } ∧ s.heap.get? b = some { cls := .type "list", dict := none, data := .seq items2 n2, slots := sl } ∧ R (.ok (.ret Value.none)) { s with heap := s.heap.update l (Obj.mapSeq fun x => x ++ items2), toks := s.toks }) :=
  .of_wp fun prog w A R s h => by
    obtain ⟨hp, g, d, tk, os⟩ := s; obtain ⟨hl, hb, h⟩ := h; have f1 := AutoSeq1.idx_int; have f2 := AutoSeq1.sub_tuple_tuple; have f3 := AutoSeq1.sub_list_list; have f4 := AutoSeq1.sub_tuple_list; have f5 := AutoSeq1.sub_list_tuple;
    have hz' : (items ++ items2).size ≤ sizeLine + 1 := by rw [Array.size_append]; exact hs2
    wp_walk using (wpAny_updateSeq hl rfl (hz := hc1) (_hz' := hz')), PySem.AutoSeq1.wpAny_loadPart' hl, PySem.AutoSeq1.wpAny_loadPart' hb; exact ⟨_, rfl, h⟩
end
section
variable {W : Wd} {g : Gl} {B₀ B : Heap} {ρ : List Addr} {env : Env} {cx : Cx} {σ σ' : S} {s : Shared} {A' : Around} {n : Nat} {ih : Ih} {E : Value → Shared → Prop}
theorem interactive_false (X : Sta W B₀ B ρ env cx σ s) : interactive env = false := by
  unfold interactive
  rw [X.fnKind]; rfl
theorem blockKind_fn (X : Sta W B₀ B ρ env cx σ s) : env.blockKind = .function := by
  unfold Env.blockKind
  rw [X.fnKind]; rfl
theorem swaps_other (e t : Expr) (line : Nat) (h : ∀ x p, t ≠ .Name x p) : swapsWith e (some t) line env = pure false := by
  rcases e with ⟨⟩ <;> first | rfl | (rcases t with ⟨⟩ <;> first | rfl | exact absurd rfl (h _ _))
theorem place_later {B₁ : Heap} {ρ₁ : List Addr} {s₁ : Shared} {σ₁ : S} {i : Nat} {ad : Addr} {m : M} (a1 : ρ[i]? = some ad) (e1 : Ext env.locals B ρ s B₁ ρ₁ s₁) (st1 : Sta W B₀ B₁ ρ₁ env cx σ₁ s₁) (hm : σ₁.mem[i]? = some (some m)) :
    ρ₁[i]? = some ad ∧ B₁.get? ad = none ∧ RM W B₁ ρ₁ s₁.heap ad m := by
  obtain ⟨ad', b1, b2, b3⟩ := st1.mem i m hm
  obtain rfl : ad = ad' := by
    obtain ⟨t, ht⟩ := e1.pre
    rw [ht, List.getElem?_append_left (List.getElem?_eq_some_iff.mp a1).1, a1] at b1
    exact Option.some.inj b1
  exact ⟨b1, b2, b3⟩
theorem methCall_inv {e : Expr} {q : (Expr × Str × Pos) × Expr × Pos} (h : methCall e = some q) : e = .Call (.Attribute q.1.1 q.1.2.1 q.1.2.2) [q.2.1] [] q.2.2 := by
  rcases e with ⟨⟩ <;> first | exact nos h | skip
  obtain ⟨u, h1, h2⟩ := obind h
  obtain ⟨h3, h4⟩ := condn h2
  obtain ⟨x, h5, rfl⟩ := omap h4
  rw [attrE_inv h1, isEmpty_inv h3, one_inv h5]
theorem putCall_sound (hb : BaseOk W g B₀) (H : IhOk W g B₀ ih n) (hA : Room W A' n) (X : Sta W B₀ B ρ env cx σ s) {o e : Expr} {nm : Str} {apos pos' pos : Pos} {p : Nat × List V} {v : V} {σ₁ : S} {xs ys : List V} {m : Mt} {id : String}
    (hp : lstAt g cx σ o = some p) (hk : methOk o [e] apos pos' = true) (hs : starred e = false) (h1 : ih.ex cx σ e = .ok (.val v) σ₁) (hm : σ₁.mem[p.1]? = some (some (.lst xs))) (hnm : mtOf nm = some m)
    (hS : Slot "list" (mtName m) id) (hT : typeOf (.builtin id) = pure (.type "method_descriptor"))
    (hC : ∀ {B₁ : Heap} {s₁ : Shared} {ad : Addr} {it1 : Array Value} {x : Value} {Q : Value → Shared → Prop}, Sub B₁ s₁.heap → s₁.heap.PlainList ad it1 → RVs W B₁ xs it1.toList → RV W B₁ v x →
      (∀ h' its, h'.PlainList ad its → Heap.SameBut ad s₁.heap h' → RVs W B₁ ys its.toList → Q .none { s₁ with heap := h' }) → wpAny (model W.prog W.w) A' (call (.builtin id) [.ref ad, x]) Q No s₁) :
    wpAny (model W.prog W.w) A' (exec (.Expr (.Call (.Attribute o nm apos) [e] [] pos') pos) env) (Good W B₀ env cx B ρ s ⟨σ₁.loc, σ₁.mem.set p.1 (some (.lst ys))⟩ fun B' _ x => RF W B' .nxt x) No s := by
  have g1 : exs ih cx σ [e] = .ok [.val v] σ₁ := by simp only [exs, hs, cond_false, h1, Out.bind]
  refine wpAny_Expr_any ?_ (interactive_false X) rfl
  obtain rfl := mtOf_name hnm
  refine wpAny_Call_method (attr_base hk) (few_ok g1 hk) (line_ok hk) PySem.F.plainAttrs_list hS hT ?_
  obtain ⟨y, hp⟩ := ls_r hp
  refine place_load hb X hp fun ad a1 a2 a3 a4 => ?_
  obtain ⟨it0, ⟨n0, hp0⟩, _⟩ := a3
  refine ⟨⟨_, hp0, rfl⟩, (fun a e => by injection e with e; exact ⟨_, e ▸ hp0, rfl⟩), ?_⟩
  refine callW H hA g1 X (fun _ _ => keeper_builtin) fun B₁ ρ₁ s₁ ws e1 st1 r1 => ?_
  obtain ⟨x, xs', rfl, ra, rb⟩ := r1.cons_inv
  obtain rfl := rb.nil_inv
  obtain ⟨b1, b2, it1, b3, b4⟩ := place_later a1 e1 st1 hm
  refine hC st1.stays b3 b4 ra.val_inv fun h' its hl' hs' hr => ?_
  obtain ⟨e2, st2⟩ := st1.turn (k := s₁.toks) (h' := h') (m := some (.lst ys)) b1 b2 (fun b o hb q => (hs'.2 b hb).trans q) (Nat.le_of_eq hs'.1.symm) fun m' q => Option.some.inj q ▸ ⟨its, hl', hr⟩
  exact ⟨B₁, ρ₁, e1.trans e2, st2, trivial⟩
theorem extend_call {B₁ : Heap} {s₁ : Shared} {ad : Addr} {it1 : Array Value} {x : Value} {xs ys : List V} {Q : Value → Shared → Prop} (sb : Sub B₁ s₁.heap) (b3 : s₁.heap.PlainList ad it1) (b4 : RVs W B₁ xs it1.toList) (ra : RV W B₁ (.list ys) x)
    (hle : xs.length + ys.length ≤ 1100000) (k : ∀ h' its, h'.PlainList ad its → Heap.SameBut ad s₁.heap h' → RVs W B₁ (xs ++ ys) its.toList → Q .none { s₁ with heap := h' }) :
    wpAny (model W.prog W.w) A' (call (.builtin "list.extend") [.ref ad, x]) Q E s₁ := by
  obtain ⟨n1, b3⟩ := b3
  obtain ⟨lb, ⟨cls2, dd2, data2, sl2⟩, it2, n2, rfl, hq2, rfl, rfl, rfl, hi2⟩ := ra.list_inv
  have e3 := b4.length
  have e4 := hi2.length
  simp at e3 e4
  have hsz : it1.size + it2.size ≤ sizeLine := by unfold sizeLine; omega
  refine call_meets PySem.F.slot_list_extend ⟨_, b3, rfl⟩ PySem.F.entry_list_extend (PySem.F.args_list_extend_2 _ _) (list_extendW ad it1 n1 lb it2 n2 sl2 (extend_door hsz) (by omega) (by omega)) ⟨b3, sb _ _ hq2, ?_⟩
  exact k _ _ ⟨_, (IsL.update (n := n1) b3 _)⟩ (Heap.SameBut.update ..) (by simpa using b4.append hi2)
theorem expr_sound (hb : BaseOk W g B₀) (H : IhOk W g B₀ ih n) (hA : Room W A' n) (X : Sta W B₀ B ρ env cx σ s) {e : Expr} {pos : Pos} {f : Fl} (h : exprStep g ih cx σ e = .ok f σ') :
    wpAny (model W.prog W.w) A' (exec (.Expr e pos) env) (Good W B₀ env cx B ρ s σ' fun B' _ x => RF W B' f x) No s := by
  obtain ⟨q, g1, h1⟩ := optB_ok h
  obtain ⟨p, g2, h2⟩ := optB_ok h1
  obtain ⟨g3, h3⟩ := cond_bt h2
  obtain ⟨v, σ₁, h4, h5⟩ := Out.bindV_ok h3
  obtain ⟨xs, g4, h6⟩ := optB_ok h5
  obtain ⟨ys, g5, h7⟩ := optB_ok h6
  obtain ⟨rfl, rfl⟩ := ok_inj h7
  obtain rfl := methCall_inv g1
  have g3 := Bool.and_eq_true_iff.mp (not_f g3)
  have hs : starred q.2.1 = false := by simpa using g3.2
  obtain ⟨m0, g6, g7⟩ := obind g4
  obtain rfl := lstOf_inv g7
  obtain ⟨m, hnm, g8⟩ := obind g5
  have hm := at_some g6
  clear h h1 h2 h3 h5 h6 h7 g1 g4 g5 g6 g7
  rcases m with ⟨⟩
  case append =>
    obtain ⟨hz, rfl⟩ := conds g8
    have hle : xs.length ≤ 1100000 := Nat.le_of_ble_eq_true hz
    refine putCall_sound hb H hA X g2 g3.1 hs h4 hm hnm PySem.F.slot_list_append PySem.F.type_list_append fun sb b3 b4 ra k => ?_
    refine wpAny_list_append_plain (hsz := by have := b4.length; simp at this; unfold sizeLine; omega) b3 fun h' hl' hs' => k h' _ hl' hs' ?_
    simpa using b4.append (.cons ra .nil)
  case extend =>
    obtain ⟨us, rfl, g9⟩ := onL_inv g8
    obtain ⟨hz, rfl⟩ := conds g9
    exact putCall_sound hb H hA X g2 g3.1 hs h4 hm hnm PySem.F.slot_list_extend PySem.F.type_list_extend fun sb b3 b4 ra k => extend_call sb b3 b4 ra (Nat.le_of_ble_eq_true hz) k
  all_goals exact nos g8
end
end

section
open PySem PySem.Calls PyProof.Rows PySem.W
set_option backward.match.sparseCases false
set_option maxRecDepth 100000
set_option linter.unusedVariables false
section
variable {W : Wd} {g : Gl} {B₀ B : Heap} {ρ : List Addr} {env : Env} {cx : Cx} {σ σ' : S} {s : Shared} {A' : Around} {n : Nat} {ih : Ih} {E : Value → Shared → Prop}
theorem fresh_store {M' : Model} {m : M} {x : Value} {s₁ : Shared} {σ₁ : S} {y : Str} {Q : Unit → Shared → Prop} (h : Fresh W B₀ env cx B ρ s σ₁ m x s₁) (hs : store cx ⟨σ₁.loc, σ₁.mem ++ [some m]⟩ y (.plc σ₁.mem.length) = .ok () σ')
    (k : ∀ B' ρ' s', Ext env.locals B ρ s B' ρ' s' → Sta W B₀ B' ρ' env cx σ' s' → Q () s') : wpAny M' A' (storeName env y x) Q E s₁ := by
  obtain ⟨B₁, ρ₁, s₀, h', t, a, o, e1, st1, rfl, sub, hz, ha, ho, rfl, hm⟩ := h
  obtain ⟨e2, st2⟩ := st1.place (k := t) sub hz ho ha hm
  refine store_sound st2 hs (.plc ?_) fun s' e3 st3 => k _ _ _ ((e1.trans e2).trans e3) st3
  rw [st1.len]; simp
theorem compPost_store {x : Str} {p : Pos} {v : V} {B' : Heap} {ρ' : List Addr} {s' : Shared} {acc : Value} {C : Addr} {σ₁ : S} {Q : Value → Shared → Prop}
    (e1 : Ext env.locals B ρ s B' ρ' s') (st1 : Sta W B₀ B' ρ' env cx σ₁ s') (r : RV W B' v acc) (ap : Apart [C] env.locals B' ρ' s') (hsz : s.heap.objs.size ≤ C) (nf : NoF W [C]) (hm : ∃ m, s'.heap.Ns C m)
    (hs : store cx σ₁ x (.val v) = .ok () σ') (k : ∀ s', Ext env.locals B ρ s B' ρ' s' → Sta W B₀ B' ρ' env cx σ' s' → Q .none s') :
    compPost (model W.prog W.w) A' E (some (PySem.assign (.Name x p) env)) Q acc C (.ok .next) s' := by
  refine wpAny_assign_Name (store_sound st1 hs (.val r) fun s'' e2 st2 => ?_)
  obtain ⟨m, hm⟩ := hm
  have hC := ap C (by simp)
  refine ⟨m, ns_kp hm fun o ho => e2.keep _ _ hC.2.2.1 hC.2.1 ho, fun h' hs' => ?_⟩
  have hz : s''.heap.objs.size ≤ h'.objs.size := Nat.le_of_eq hs'.1.symm
  have hk : Keep [C] s''.heap h' := fun b o hb e => (hs'.2 b fun q => hb (by simp [q])).trans e
  exact k _ ((e1.trans e2).moved (k := s''.toks) hk hz fun b hb => by rw [List.mem_singleton.mp hb]; exact hsz) (st2.moved (k := s''.toks) nf (ap.ext e2) hk hz)
theorem swaps_name (e : Expr) (x : Str) (p : Pos) (line : Nat) : ∃ b, swapsWith e (some (.Name x p)) line env = pure b := by
  rcases e with ⟨⟩ <;> exact ⟨_, rfl⟩
theorem zeroAsync {elt : Expr} {c : Comprehension} {scope : Scope} {v : V} (h : exComp g ih cx σ elt c scope = .ok v σ') : firstAsync [c] = false := by
  rw [comp_zero (Bool.and_eq_true_iff.mp (not_f (cond_bt h).1)).1]; rfl
theorem zeroAsyncD {kx vx : Expr} {c : Comprehension} {scope : Scope} {v : V} (h : exCompD g ih cx σ kx vx c scope = .ok v σ') : firstAsync [c] = false := by
  rw [comp_zero (Bool.and_eq_true_iff.mp (not_f (cond_bt h).1)).1]; rfl
theorem sole_tuple {ts : List Expr} {k : Nat} {p : Pos} (e : Expr) (line : Nat) : swapsWithSole [.Tuple ts k p] e line env = pure false := by
  show swapsWith e (some (.Tuple ts k p)) line env = pure false
  exact swaps_other _ _ _ fun _ _ e => nomatch e
theorem name_plain {x : Str} {p : Pos} {e : Expr} {pos : Pos} {Q : Flow → Shared → Prop} (hs : swapsWith e (some (.Name x p)) pos.line env = pure false)
    {M' : Model} (h : wpAny M' A' (eval e env) (fun v s₁ => wpAny M' A' (storeName env x v) (fun _ s₂ => Q .next s₂) E s₁) E s) : wpAny M' A' (exec (.Assign [.Name x p] e pos) env) Q E s := by
  rw [exec_Assign_Name env x p e pos hs]
  exact wpAny_bind (wpAny_standAt (wpAny_bind (wpAny_mono h (fun v s₁ h₁ => wpAny_bind (wpAny_standAt (wpAny_bind (wpAny_bindName (wpAny_mono h₁ (fun _ _ h₂ => wpAny_pure h₂) fun _ _ e => e))))) fun _ _ e => e)))
theorem nameList_sound (hb : BaseOk W g B₀) (H : IhOk W g B₀ ih n) (hA : Room W A' n) (X : Sta W B₀ B ρ env cx σ s) {x : Str} {p : Pos} {elt : Expr} {c : Comprehension} {scope : Scope} {q pos : Pos} {v : V} {σ₁ : S}
    (h1 : exComp g ih cx σ elt c scope = .ok v σ₁) (h3 : store cx σ₁ x (.val v) = .ok () σ') :
    wpAny (model W.prog W.w) A' (exec (.Assign [.Name x p] (.ListComp elt [c] scope q) pos) env) (Good W B₀ env cx B ρ s σ' fun B' _ x => RF W B' .nxt x) No s := by
  obtain ⟨b, hb2⟩ := swaps_name (env := env) (.ListComp elt [c] scope q) x p pos.line
  cases b with
  | false =>
    refine name_plain hb2 (good_step (β := Value) (listComp_sound X hb H hA h1) fun B₁ ρ₁ s₁ y e1 st1 r1 => ?_)
    exact store_sound st1 h3 (.val r1) fun s' e2 st2 => ⟨B₁, ρ₁, e1.trans e2, st2, trivial⟩
  | true =>
    rw [exec_Assign_Name_used x p _ pos hb2]
    refine wpAny_bind (wpAny_standAt (wpAny_bind ?_))
    show wpAny _ _ (do let _ ← comprehension (.ListComp elt [c] scope q) scope env (firstIterPos [c] q) (newList []) (firstAsync [c]) (firstIter [c] env) (some (PySem.assign (.Name x p) env))) _ _ _
    rw [zeroAsync h1]
    refine wpAny_bind (list_core X hb H hA (by cases c; rfl) h1 fun B' ρ' s' acc C e1 st1 r ap hsz nf hm => compPost_store e1 st1 r ap hsz nf hm h3 fun s'' e2 st2 => ?_)
    exact wpAny_pure (wpAny_pure ⟨B', ρ', e2, st2, trivial⟩)
theorem nameDict_sound (hb : BaseOk W g B₀) (H : IhOk W g B₀ ih n) (hA : Room W A' n) (X : Sta W B₀ B ρ env cx σ s) {x : Str} {p : Pos} {kx vx : Expr} {c : Comprehension} {scope : Scope} {q pos : Pos} {v : V} {σ₁ : S}
    (h1 : exCompD g ih cx σ kx vx c scope = .ok v σ₁) (h3 : store cx σ₁ x (.val v) = .ok () σ') :
    wpAny (model W.prog W.w) A' (exec (.Assign [.Name x p] (.DictComp kx vx [c] scope q) pos) env) (Good W B₀ env cx B ρ s σ' fun B' _ x => RF W B' .nxt x) No s := by
  obtain ⟨b, hb2⟩ := swaps_name (env := env) (.DictComp kx vx [c] scope q) x p pos.line
  cases b with
  | false =>
    refine name_plain hb2 (good_step (β := Value) (dictComp_sound X hb H hA h1) fun B₁ ρ₁ s₁ y e1 st1 r1 => ?_)
    exact store_sound st1 h3 (.val r1) fun s' e2 st2 => ⟨B₁, ρ₁, e1.trans e2, st2, trivial⟩
  | true =>
    rw [exec_Assign_Name_used x p _ pos hb2]
    refine wpAny_bind (wpAny_standAt (wpAny_bind ?_))
    show wpAny _ _ (do let _ ← comprehension (.DictComp kx vx [c] scope q) scope env (firstIterPos [c] q) newDict (firstAsync [c]) (firstIter [c] env) (some (PySem.assign (.Name x p) env))) _ _ _
    rw [zeroAsyncD h1]
    refine wpAny_bind (dict_core X hb H hA (by cases c; rfl) h1 fun B' ρ' s' acc C e1 st1 r ap hsz nf hm => compPost_store e1 st1 r ap hsz nf hm h3 fun s'' e2 st2 => ?_)
    exact wpAny_pure (wpAny_pure ⟨B', ρ', e2, st2, trivial⟩)
theorem stored {u : Unit} {f : Fl} {σ₁ : S} {o : Out Unit} (h : (o.bind fun _ σ₂ => Out.ok Fl.nxt σ₂) = .ok f σ') : f = .nxt ∧ o = .ok () σ' := by
  obtain ⟨_, σ₂, h3, h4⟩ := Out.bind_ok h
  obtain ⟨rfl, rfl⟩ := ok_inj h4
  exact ⟨rfl, h3⟩
theorem assignName_elim {P : Expr → Prop} {x : Str} {e : Expr} {o : Out Fl} (h : assignName g ih cx σ x e = o)
    (h1 : ∀ elt cs scope p, noX (optB (one cs) fun c => (exComp g ih cx σ elt c scope).bind fun v σ₁ => (store cx σ₁ x (.val v)).bind fun _ σ₂ => .ok .nxt σ₂) = o → P (.ListComp elt cs scope p))
    (h2 : ∀ kx vx cs scope p, noX (optB (one cs) fun c => (exCompD g ih cx σ kx vx c scope).bind fun v σ₁ => (store cx σ₁ x (.val v)).bind fun _ σ₂ => .ok .nxt σ₂) = o → P (.DictComp kx vx cs scope p))
    (h3 : ∀ e, nameGo ih cx σ x e = o → P e) : P e := by
  rcases e with ⟨⟩
  case ListComp => exact h1 _ _ _ _ h
  case DictComp => exact h2 _ _ _ _ _ h
  all_goals exact h3 _ h
theorem notComp {e : Expr} (h : isCompE e = false) (t : Option Expr) (line : Nat) : swapsWith e t line env = pure false := by
  rcases e with ⟨⟩ <;> first | rfl | exact tt_ff h
theorem assignName_sound (hb : BaseOk W g B₀) (H : IhOk W g B₀ ih n) (hA : Room W A' n) (X : Sta W B₀ B ρ env cx σ s) {x : Str} {p : Pos} {e : Expr} {pos : Pos} {f : Fl} (h : assignName g ih cx σ x e = .ok f σ') :
    wpAny (model W.prog W.w) A' (exec (.Assign [.Name x p] e pos) env) (Good W B₀ env cx B ρ s σ' fun B' _ x => RF W B' f x) No s := by
  refine assignName_elim (P := fun e => wpAny (model W.prog W.w) A' (exec (.Assign [.Name x p] e pos) env) (Good W B₀ env cx B ρ s σ' fun B' _ x => RF W B' f x) No s) h (fun elt cs scope q h => ?_) (fun kx vx cs scope q h => ?_) (fun e h => ?_)
  · obtain ⟨c, g1, h1⟩ := optB_ok (noX_ok h)
    obtain ⟨v, σ₁, h2, h3⟩ := Out.bind_ok h1
    obtain ⟨rfl, h4⟩ := stored (u := ()) (σ₁ := σ₁) h3
    obtain rfl := one_inv g1
    exact nameList_sound hb H hA X h2 h4
  · obtain ⟨c, g1, h1⟩ := optB_ok (noX_ok h)
    obtain ⟨v, σ₁, h2, h3⟩ := Out.bind_ok h1
    obtain ⟨rfl, h4⟩ := stored (u := ()) (σ₁ := σ₁) h3
    obtain rfl := one_inv g1
    exact nameDict_sound hb H hA X h2 h4
  · obtain ⟨hc, h1⟩ := cond_bt h
    rcases q : isF e with _ | _ <;> rw [q] at h1
    · obtain ⟨a, σ₁, h2, h3⟩ := Out.bind_ok h1
      obtain ⟨rfl, h4⟩ := stored (u := ()) (σ₁ := σ₁) h3
      refine name_plain (notComp hc _ _) (good_step (β := Value) (H.ex _ _ _ _ _ h2 _ _ _ _ _ hA X) fun B₁ ρ₁ s₁ y e1 st1 r1 => ?_)
      exact store_sound st1 h4 r1 fun s' e2 st2 => ⟨B₁, ρ₁, e1.trans e2, st2, trivial⟩
    · obtain ⟨m, σ₁, h2, h3⟩ := Out.bind_ok (noX_ok h1)
      obtain ⟨rfl, h4⟩ := stored (u := ()) (σ₁ := σ₁) h3
      refine name_plain (notComp hc _ _) (wpAny_mono (exF_sound hb H hA X h2) (fun v s₁ hf => ?_) fun _ _ e => e)
      exact fresh_store hf h4 fun B' ρ' s' e1 st1 => ⟨B', ρ', e1, st1, trivial⟩
theorem wpAny_bindRev {M' : Model} {x y : Str} {a b : Value} {Q : Unit → Shared → Prop} (h : wpAny M' A' (storeName env y b) (fun _ s₁ => wpAny M' A' (storeName env x a) Q E s₁) E s) :
    wpAny M' A' (assignInOrder ([x, y].reverse.map fun n => bindName env n) [a, b].reverse) Q E s :=
  wpAny_assignInOrder_more (wpAny_bindName (wpAny_mono h (fun _ s₁ h₁ => wpAny_assignInOrder_more (wpAny_bindName (wpAny_mono h₁ (fun _ s₂ h₂ => wpAny_assignInOrder_none h₂) fun _ _ e => e))) fun _ _ e => e))
inductive SwpR (cx : Cx) (ts es : List Expr) : Prop
  | mk (x y : Str) (q r : Pos) (h0 : ts = [.Name x q, .Name y r]) (h1 : es.length = 2) (h2 : lkN cx.scope.names x = some .local) (h3 : lkN cx.scope.names y = some .local) (h4 : r.line = q.line) (h5 : nEq x y = false)
    (h6 : es.any starred = false) (h7 : es.all (foldedForSure 8) = false) (h8 : es.all (constantsAlone 8) = false)
theorem swp_r {ts es : List Expr} (h : swapOk cx ts es = true) : SwpR cx ts es := by
  unfold swapOk at h
  rcases g1 : two ts with _ | u <;> rw [g1] at h
  · exact ff_tt h
  rcases g2 : nameP u.1 with _ | a <;> simp only [g2] at h
  · exact ff_tt h
  rcases g3 : nameP u.2 with _ | b <;> simp only [g3] at h
  · exact ff_tt h
  simp only [Bool.and_eq_true] at h
  obtain ⟨⟨⟨⟨⟨⟨⟨h1, h2⟩, h3⟩, h4⟩, h5⟩, h6⟩, h7⟩, h8⟩ := h
  exact ⟨a.1, b.1, a.2, b.2, by rw [two_inv g1, nameP_inv g2, nameP_inv g3], Nat.eq_of_beq_eq_true h1, loc_of h2, loc_of h3, Nat.eq_of_beq_eq_true h4, by simpa using h5, by simpa using h6, by simpa using h7, by simpa using h8⟩
theorem swapped_eq (X : Sta W B₀ B ρ env cx σ s) {ts es : List Expr} {k k' : Nat} {p p' : Pos} (h : swapOk cx ts es = true) : ∃ x y q r, ts = [.Name x q, .Name y r] ∧ swappedStores [.Tuple ts k p] (.Tuple es k' p') env = pure (some [x, y]) := by
  obtain ⟨x, y, q, r, rfl, e1, e2, e3, e4, h5, e6, e7, e8⟩ := swp_r h
  refine ⟨x, y, q, r, rfl, ?_⟩
  rw [← X.kindOf x] at e2
  rw [← X.kindOf y] at e3
  unfold swappedStores
  dsimp only
  rw [if_neg (by rw [blockKind_fn X, e1]; simp), if_neg (by
    intro hc
    rw [List.any_eq_true] at hc
    obtain ⟨z, hz, hz2⟩ := hc
    have : es.any starred = true := List.any_eq_true.mpr ⟨z, hz, by rcases z with ⟨⟩ <;> first | rfl | exact ff_tt hz2⟩
    exact ff_tt (e6.symm.trans this))]
  have e5'' : ¬ y = x := fun z => by rw [z, nEq_self] at h5; exact tt_ff h5
  have e5' : (y == x) = false := beq_eq_false_iff_ne.mpr e5''
  rw [show List.filterMap _ [Expr.Name x q, Expr.Name y r] = [x, y] from by
    rw [List.filterMap_cons_some (b := x) (by exact if_pos (Bool.and_eq_true_iff.mpr ⟨beq_iff_eq.mpr e2, beq_iff_eq.mpr rfl⟩)), List.filterMap_cons_some (b := y) (by exact if_pos (Bool.and_eq_true_iff.mpr ⟨beq_iff_eq.mpr e3, beq_iff_eq.mpr e4⟩))]; rfl]
  simp [e7, e8, List.eraseDups_cons, e5']
theorem setIx_ok {m m' : M} {i v : V} (h : setIx m i v = some m') : ∃ xs k, m = .lst xs ∧ i = .int (.ofNat k) ∧ m' = .lst (xs.set k v) ∧ k < xs.length ∧ xs.length ≤ lim := by
  obtain ⟨xs, h1, h2⟩ := obind h
  obtain ⟨_, rfl, h3⟩ := onI_inv h2
  obtain ⟨k, rfl, h4⟩ := natOf_inv h3
  obtain ⟨hz, rfl⟩ := conds h4
  have hz := Bool.and_eq_true_iff.mp hz
  exact ⟨xs, k, lstOf_inv h1, rfl, rfl, by simpa using hz.1, Nat.le_of_ble_eq_true hz.2⟩
theorem swap_sound (H : IhOk W g B₀ ih n) (hA : Room W A' n) (X : Sta W B₀ B ρ env cx σ s) {ts es : List Expr} {k k' : Nat} {p p' pos : Pos} {vs : List V} {σ₁ : S} (hsw : swapOk cx ts es = true)
    (h1 : ih.ex cx σ (.Tuple es k' p') = .ok (.val (.tup vs)) σ₁) (h3 : storeAll cx σ₁ ts.reverse vs.reverse = .ok () σ') :
    wpAny (model W.prog W.w) A' (exec (.Assign [.Tuple ts k p] (.Tuple es k' p') pos) env) (Good W B₀ env cx B ρ s σ' fun B' _ x => RF W B' .nxt x) No s := by
  obtain ⟨x, y, q, r, rfl, hsp⟩ := swapped_eq (k := k) (p := p) (k' := k') (p' := p') X hsw
  have hs : swapsWithSole [.Tuple [.Name x q, .Name y r] k p] (.Tuple es k' p') pos.line env = pure false := sole_tuple _ _
  rw [PyProof.Rows.exec_Assign, hs]
  refine wpAny_bind (wpAny_standAt (wpAny_bind (wpAny_pure ?_)))
  simp only [Bool.false_eq_true, if_false]
  refine wpAny_bind (exV H h1 hA X fun B₁ ρ₁ s₁ xv e1 st1 r1 => ?_)
  rw [hsp]
  refine wpAny_bind (wpAny_pure ?_)
  simp only [assignStores]
  refine wpAny_bind (wpAny_rule (wpAny_bind ?_))
  obtain ⟨a, items, rfl, ⟨o, ho, ht⟩, hx⟩ := r1.tup_inv
  obtain ⟨x1, p1, v1, r1', σ3, hn1, hv1, s1, s2⟩ := storeAll_cons (t := .Name y r) (ts := [.Name x q]) h3
  injection hn1 with hn1; subst hn1
  obtain ⟨x2, p2, v2, r2', σ4, hn2, hv2, s3, s4⟩ := storeAll_cons s2
  injection hn2 with hn2; subst hn2
  obtain ⟨rfl, rfl⟩ := storeAll_nil s4
  obtain rfl : vs = [v2, v1] := by
    have := congrArg List.reverse (hv1.trans (congrArg (v1 :: ·) hv2))
    simpa using this
  obtain ⟨its⟩ := items
  obtain ⟨w2, _, rfl, ra, hx⟩ := RVs.cons_inv hx
  obtain ⟨w1, rfl, rb⟩ := hx.one_inv
  refine with_size (wpAny_unpackItems_tuple (items := #[w2, w1]) hA.1 ⟨o, st1.stays _ _ ho, ht⟩ fun h' he hz => ?_)
  have grow : Sub s₁.heap h' := fun b o q => he b o (Nat.ne_of_lt (Heap.lt_size q)) q
  have st2 := st1.grow (k := s₁.toks) grow hz
  refine wpAny_bind (wpAny_bindRev (x := x) (y := y) (store_sound st2 s1 (.val rb) fun s₃ e3 st3 => store_sound st3 s3 (.val ra) fun s₄ e4 st4 => wpAny_pure ?_))
  exact ⟨B₁, ρ₁, ((e1.trans (Ext.grow (k := s₁.toks) grow hz)).trans e3).trans e4, st4, trivial⟩
theorem dctOf_inv {m : M} {p : List V × List V} (h : dctOf m = some p) : m = .dct p.1 p.2 := by
  rcases m with ⟨⟩
  case dct ks vs => obtain rfl := Option.some.inj h; rfl
  all_goals exact nos h
theorem keyEq_str (k : Str) (a : V) (h : keyEq (.str k) a = true) : a = .str k := by
  rcases a with ⟨⟩
  case str y => rw [nEq_iff.mp h]
  all_goals exact ff_tt h
theorem keyEq_str' (k : Str) (a : V) (h : keyEq a (.str k) = true) : a = .str k := by
  rcases a with ⟨⟩
  case str y => rw [nEq_iff.mp h]
  all_goals exact ff_tt h
theorem setItem_le {prog : Program} {w : World} {K : Type} [DecidableEq K] {knd : KeyKind prog w K} {A : Around} {E : Value → Shared → Prop} {s : Shared} {d : Addr} {f} {k : K} {key v : Value} {n : Nat} {Q : Unit → Shared → Prop} (hkey : knd.is k key = true) (hm : s.heap.MapOf knd d f) (hz : s.heap.DictLe d n) (hn : n ≤ sizeLine)
    (hQ : ∀ h', h'.MapOf knd d (fun x => if x = k then some v else f x) → h'.DictLe d (if (f k).isSome then n else n + 1) → Heap.SameBut d s.heap h' → Q () { s with heap := h', toks := s.toks + 1 }) :
    wpAny (model prog w) A (setItem (.ref d) key v) Q E s := by
  unfold setItem
  try with_reducible refine wpAny_holding ?_
  refine wpAny_bind (wpAny_sequenceKey hm.typeIs (by decide) ?_)
  refine wpAny_bind (wpAny_callSpecial?_slot (name := Str.ofString "__setitem__") hm.typeIs slot_dict_setitem
    (wpAny_call_entry slot_dict_setitem hm.typeIs entry_dict_setitem ?_ (args_dict_setitem _ _ _)))
  show wpAny _ _ (Builtin.Dict.notOrdered "__setitem__" ⟨[.ref d, key, v], []⟩ >>= _) _ _ s
  refine wpAny_bind (wpAny_notOrdered_dict hm.typeIs ?_)
  show wpAny _ _ (dictSet d key v >>= _) _ _ s
  exact wpAny_bind (dictSet_le hkey hm hz hn fun h' hm' hz' hs' => wpAny_pure ⟨.none, rfl, wpAny_pure (hQ h' hm' hz' hs')⟩)
theorem setSub_sound (hb : BaseOk W g B₀) (H : IhOk W g B₀ ih n) (hA : Room W A' n) (X : Sta W B₀ B ρ env cx σ s) {o i e : Expr} {p pos : Pos} {v iv : V} {σ₁ σ₂ : S} {q : Str × Nat × M} {m m' : M} (h1 : ih.ex cx σ e = .ok (.val v) σ₁) (hp : placeOf g cx σ₁ o = some q)
    (h3 : ih.ex cx σ₁ i = .ok (.val iv) σ₂) (hm : σ₂.mem[q.2.1]? = some (some m)) (hset : setM m iv v = some m') :
    wpAny (model W.prog W.w) A' (exec (.Assign [.Subscript o i p] e pos) env) (Good W B₀ env cx B ρ s ⟨σ₂.loc, σ₂.mem.set q.2.1 (some m')⟩ fun B' _ x => RF W B' .nxt x) No s := by
  have hs : swapsWith e (some (.Subscript o i p)) pos.line env = pure false := swaps_other _ _ _ (fun _ _ e => nomatch e)
  rw [exec_Assign_Subscript o i p e pos hs]
  refine wpAny_bind (wpAny_standAt (wpAny_bind (exV H h1 hA X fun B₁ ρ₁ s₁ xv e1 st1 r1 => ?_)))
  rw [assign_Subscript]
  refine wpAny_bind (wpAny_bind (wpAny_holding (place_load hb st1 hp fun ad a1 a2 a3 a4 => ?_)))
  refine wpAny_bind (wpAny_holding (exV H h3 hA st1 fun B₂ ρ₂ s₂ xi e2 st2 r2 => ?_))
  obtain ⟨b1, b2, hrm⟩ := place_later a1 e2 st2 hm
  refine wpAny_bind (wpAny_standAt (wpAny_bind (wpAny_holding ?_)))
  rcases q2 : dctOf m with _ | u <;> rw [setM, q2] at hset
  · obtain ⟨xs, k, rfl, rfl, rfl, hk1, hk2⟩ := setIx_ok hset
    obtain ⟨its, hpl, hr⟩ := hrm
    have hlim : lim = 1100000 := rfl
    obtain ⟨_, rfl⟩ := r2.int_inv
    have hl := hr.length
    simp at hl
    refine setItem_plain hpl (Int.natCast_nonneg k) (by show (k : Int) < _; omega) (by show (k : Int) < _; omega) fun h' hl' hs' => ?_
    obtain ⟨e3, st3⟩ := st2.turn (k := s₂.toks) (h' := h') (m := some (.lst (xs.set k v))) b1 b2 (fun b o hb q => (hs'.2 b hb).trans q) (Nat.le_of_eq hs'.1.symm) fun m' q => Option.some.inj q ▸ ⟨_, hl', by
      have := hr.set (r1.mono e2.sub) k
      simpa using this⟩
    exact wpAny_release (wpAny_pure ⟨B₂, ρ₂, (e1.trans e2).trans e3, st3, trivial⟩)
  · obtain rfl := dctOf_inv q2
    obtain ⟨k, rfl, h4⟩ := onS_inv hset
    obtain ⟨hz, rfl⟩ := conds h4
    obtain ⟨f, ws, n, d1, d2, d3, d4, d5, d6, d7, d8⟩ := hrm
    obtain ⟨tk, rfl⟩ := r2.str_inv
    have hz := Nat.le_of_ble_eq_true hz
    refine setItem_le (knd := strKind W.prog W.w) (k := k) (strKind_is _ _ _ _) d1 d3 (by have := sizeLine_big; omega) fun h' n1 n2 hs' => ?_
    obtain ⟨ws', a1, a2, a3, a4, a5⟩ := lkW_put (x := .str k) (y := v) (keyEq_str k) (keyEq_str' k) (nEq_self k) (r1.mono e2.sub) d5 d7
    obtain ⟨e3, st3⟩ := st2.turn (k := s₂.toks + 1) (h' := h') (m := some (.dct (putV u.1 u.2 (.str k) v).1 (putV u.1 u.2 (.str k) v).2)) b1 b2 (fun b o hb q => (hs'.2 b hb).trans q) (Nat.le_of_eq hs'.1.symm) fun m' q => Option.some.inj q ▸
      ⟨_, ws', _, n1, d2, n2, by rw [a4, d6]; split <;> omega, a1, fun y => by
        rw [a3, d6]
        show _ = if nEq y k = true then _ else _
        by_cases hyk : y = k
        · subst hyk; rw [if_pos rfl, if_pos (nEq_self _)]
        · rw [if_neg hyk, if_neg (fun z => hyk (nEq_iff.mp z))], a2, fun y hy => by
        rcases a5 y hy with z | z
        · exact d8 y z
        · exact ⟨k, z⟩⟩
    exact wpAny_release (wpAny_pure ⟨B₂, ρ₂, (e1.trans e2).trans e3, st3, trivial⟩)
theorem tgt_elim {P : Expr → Prop} {t e : Expr} {f : Fl} (h : assignStep g ih cx σ [t] e = .ok f σ') (h1 : ∀ x p, assignName g ih cx σ x e = .ok f σ' → P (.Name x p))
    (h2 : ∀ ts k p, (noX <| match tupE e with
      | some es => cond (!swapOk cx ts es) .bad <| (ih.ex cx σ e).bindV fun v σ₁ => optB (tupOf v) fun vs => (storeAll cx σ₁ ts.reverse vs.reverse).bind fun _ σ₂ => .ok .nxt σ₂
      | none => (ih.ex cx σ e).bindV fun v σ₁ => (Mine.assign cx σ₁ (.Tuple ts k p) v).bind fun _ σ₂ => .ok .nxt σ₂) = .ok f σ' → P (.Tuple ts k p))
    (h3 : ∀ o i p, (noX <| (ih.ex cx σ e).bindV fun v σ₁ => optB (placeOf g cx σ₁ o) fun p => (ih.ex cx σ₁ i).bindV fun iv σ₂ => optB (at? σ₂.mem p.2.1) fun m => optB (setM m iv v) fun m' =>
      Out.ok Fl.nxt ⟨σ₂.loc, σ₂.mem.set p.2.1 (some m')⟩) = .ok f σ' → P (.Subscript o i p)) : P t := by
  rcases t with ⟨⟩
  case Name => exact h1 _ _ h
  case Tuple => exact h2 _ _ _ h
  case Subscript => exact h3 _ _ _ h
  all_goals exact bad_ok h
theorem assign_stmt_sound (hb : BaseOk W g B₀) (H : IhOk W g B₀ ih n) (hA : Room W A' n) (X : Sta W B₀ B ρ env cx σ s) {ts : List Expr} {e : Expr} {pos : Pos} {f : Fl} (h : assignStep g ih cx σ ts e = .ok f σ') :
    wpAny (model W.prog W.w) A' (exec (.Assign ts e pos) env) (Good W B₀ env cx B ρ s σ' fun B' _ x => RF W B' f x) No s := by
  obtain ⟨t, g1, h'⟩ := optB_ok h
  clear h'
  obtain rfl := one_inv g1
  refine tgt_elim (P := fun t => wpAny (model W.prog W.w) A' (exec (.Assign [t] e pos) env) (Good W B₀ env cx B ρ s σ' fun B' _ x => RF W B' f x) No s) h (fun x p h => assignName_sound hb H hA X h) (fun ts k p h => ?_) (fun o i p h => ?_)
  · have h := noX_ok h
    rcases he : tupE e with _ | es <;> rw [he] at h
    · obtain ⟨v, σ₁, h1, h2⟩ := Out.bindV_ok h
      obtain ⟨rfl, h3⟩ := stored (u := ()) (σ₁ := σ₁) h2
      have hsp : swappedStores [.Tuple ts k p] e env = pure none := by
        rcases e with ⟨⟩ <;> first | rfl | exact son he
      refine PyProof.Rows.Assign_Tuple (exV H h1 hA X fun B₁ ρ₁ s₁ xv e1 st1 r1 => ?_) (sole_tuple _ _) hsp
      exact assign_sound hA st1 h3 r1 fun s' e2 st2 => ⟨B₁, ρ₁, e1.trans e2, st2, trivial⟩
    · obtain ⟨hsw, h0⟩ := cond_bt h
      obtain ⟨v, σ₁, h1, h2⟩ := Out.bindV_ok h0
      obtain ⟨vs, h3, h4⟩ := optB_ok h2
      obtain ⟨rfl, h5⟩ := stored (u := ()) (σ₁ := σ₁) h4
      obtain rfl := tupOf_inv h3
      obtain ⟨k', p', rfl⟩ := tupE_inv he
      exact swap_sound H hA X (not_f hsw) h1 h5
  · obtain ⟨v, σ₁, h1, h2⟩ := Out.bindV_ok (noX_ok h)
    obtain ⟨q, hp, h3⟩ := optB_ok h2
    obtain ⟨iv, σ₂, h4, h5⟩ := Out.bindV_ok h3
    obtain ⟨m, hm, h6⟩ := optB_ok h5
    obtain ⟨m', hset, h7⟩ := optB_ok h6
    obtain ⟨rfl, rfl⟩ := ok_inj h7
    exact setSub_sound hb H hA X h1 hp h4 (at_some hm) hset
end
end

section
open PySem PySem.Calls PyProof.Rows PySem.W
set_option backward.match.sparseCases false
set_option maxRecDepth 100000
set_option linter.unusedVariables false
section
variable {W : Wd} {g : Gl} {B₀ B : Heap} {ρ : List Addr} {env : Env} {cx : Cx} {σ σ' : S} {s : Shared} {A' : Around} {n : Nat} {ih : Ih} {E : Value → Shared → Prop}
theorem store_kind {x : Str} {a : A} (h : store cx σ x a = .ok () σ') : lkN cx.scope.names x = some .local ∨ lkN cx.scope.names x = some .cell := by
  obtain ⟨_, h1, _⟩ := optB_ok h
  rcases wr_r h1 with ⟨q, _⟩ | ⟨_, _, q, _, _, _⟩
  · exact .inl q
  · exact .inr q
theorem load_lc {M' : Model} (X : Sta W B₀ B ρ env cx σ s) {x : Str} {a : A} {Q : Value → Shared → Prop} (h : readRaw g cx σ x = some a) (hk0 : lkN cx.scope.names x = some .local ∨ lkN cx.scope.names x = some .cell)
    (k : ∀ v, RA W B ρ a v → Q v s) : wpAny M' A' (loadName env x) Q E s := by
  have hk := X.kindOf x
  rcases (raw_r h).2 with ⟨q, h⟩ | ⟨i, q, hi, hm⟩ | ⟨v, q, hg, rfl⟩
  · obtain ⟨m, hn, hl⟩ := X.locs
    obtain ⟨v, hv, hr⟩ := hl x a h
    exact wpAny_loadName_local X.fnKind (hk.trans q) hn hv (k v hr)
  · obtain ⟨ad, h1, h2, h3, h4⟩ := X.cellAt q hi hm
    obtain ⟨v, hc, hr⟩ := h4
    exact wpAny_loadName_cell X.fnKind (hk.trans q) h1 hc (k v hr)
  · rcases hk0 with z | z <;> exact nomatch q.symm.trans z
theorem inplace_sound (X : Sta W B₀ B ρ env cx σ s) {op : Operator} {a b c : V} {x y : Value} {Q : Value → Shared → Prop} (hop : augOk op = true) (hl : isListV a = false) (ha : RV W B a x) (hy : RV W B b y) (h : binop op a b = some c)
    (k : Kont W B₀ env cx B ρ σ s c Q) : wpAny (model W.prog W.w) A' (inplaceOp op x y) Q E s := by
  have r := binop_r h
  clear h
  rcases r with ⟨p, q⟩ | ⟨p, q, h⟩ | ⟨p, q, h⟩ | ⟨p, q⟩ | ⟨p, q, h⟩ | ⟨p, q, h, h2⟩ | ⟨p, q, h⟩ | ⟨p, q⟩ | ⟨p, q⟩ | ⟨p, q⟩ | ⟨p, q, h, h2⟩ | ⟨p, q, h, h2⟩
  · exact ops_int (P := fun x y => wpAny _ A' (inplaceOp _ x y) Q E s) ha hy fun t u => PyProof.Rows.iadd_int (k.toks X _ .int)
  · exact ops_str (P := fun x y => wpAny _ A' (inplaceOp _ x y) Q E s) ha hy fun t u => PyProof.Rows.iadd_str (fun t' tk => k.toks X _ .str) (by unfold sizeLine; omega)
  · exact tt_ff hl
  · exact ops_int (P := fun x y => wpAny _ A' (inplaceOp _ x y) Q E s) ha hy fun t u => PyProof.Rows.isub_int (k.toks X _ .int)
  · exact ff_tt hop
  · exact ff_tt hop
  · exact ff_tt hop
  · exact ff_tt hop
  · exact ops_int (P := fun x y => wpAny _ A' (inplaceOp _ x y) Q E s) ha hy fun t u => PyProof.Rows.ior_int (k.toks X _ .int)
  · exact ops_int (P := fun x y => wpAny _ A' (inplaceOp _ x y) Q E s) ha hy fun t u => PyProof.Rows.ixor_int (k.toks X _ .int)
  · exact ops_int (P := fun x y => wpAny _ A' (inplaceOp _ x y) Q E s) ha hy fun t u => ilshift_int_small (Int.natCast_nonneg q) (by show (q : Int) ≤ _; omega) (by omega) (k.toks X _ .int)
  · exact ff_tt hop
theorem augName_sound (H : IhOk W g B₀ ih n) (hA : Room W A' n) (X : Sta W B₀ B ρ env cx σ s) {x : Str} {e : Expr} {op : Operator} {p pos : Pos} {a b v : V} {σ₁ : S} (hop : augOk op = true) (hr : readRaw g cx σ x = some (.val a)) (h1 : ih.ex cx σ e = .ok (.val b) σ₁)
    (hl : isListV a = false) (hv : binop op a b = some v) (h3 : store cx σ₁ x (.val v) = .ok () σ') :
    wpAny (model W.prog W.w) A' (exec (.AugAssign (.Name x p) op e pos) env) (Good W B₀ env cx B ρ s σ' fun B' _ x => RF W B' .nxt x) No s := by
  refine wpAny_AugAssign_Name (load_lc X hr (store_kind h3) fun w rv => ?_)
  refine exV H h1 hA X fun B₁ ρ₁ s₁ y e1 st1 r1 => ?_
  refine inplace_sound st1 hop hl (rv.val_inv.mono e1.sub) r1 hv fun B' s' v e2 st2 r2 => ?_
  exact store_sound st2 h3 (.val r2) fun s'' e3 st3 => ⟨B', ρ₁, (e1.trans e2).trans e3, st3, trivial⟩
theorem augSub_sound (hb : BaseOk W g B₀) (H : IhOk W g B₀ ih n) (hA : Room W A' n) (X : Sta W B₀ B ρ env cx σ s) {o i e : Expr} {op : Operator} {p pos : Pos} {q : Nat × List V} {iv b v : V} {a : Int} {xs ys : List V} {σ₁ σ₂ : S} {m' : M} (hop : augOk op = true) (hsl : isSlice i = false)
    (hp : lstAt g cx σ o = some q) (h1 : ih.ex cx σ i = .ok (.val iv) σ₁) (hm : σ₁.mem[q.1]? = some (some (.lst xs))) (ha : getIx (.list xs) iv = some (.int a)) (h3 : ih.ex cx σ₁ e = .ok (.val b) σ₂) (hm2 : σ₂.mem[q.1]? = some (some (.lst ys)))
    (hv : binop op (.int a) b = some v) (hset : setIx (.lst ys) iv v = some m') :
    wpAny (model W.prog W.w) A' (exec (.AugAssign (.Subscript o i p) op e pos) env) (Good W B₀ env cx B ρ s ⟨σ₂.loc, σ₂.mem.set q.1 (some m')⟩ fun B' _ x => RF W B' .nxt x) No s := by
  obtain ⟨zs, k, hzs, rfl, rfl, hk1, hk2⟩ := setIx_ok hset
  injection hzs with hzs; subst hzs
  obtain ⟨y, hp⟩ := ls_r hp
  refine wpAny_AugAssign_SubscriptAny ?_ (by intro ov iv new; rcases i with ⟨⟩ <;> first | rfl | exact tt_ff hsl)
  refine place_load hb X hp fun ad a1 a2 a3 a4 => ?_
  refine exV H h1 hA X fun B₁ ρ₁ s₁ xi e1 st1 r1 => ?_
  obtain ⟨b1, b2, its, hpl, hr⟩ := place_later a1 e1 st1 hm
  refine (ixList hpl.isList hr r1 ha fun w rw => ?_).choose_spec.choose_spec.2.2
  refine exV H h3 hA st1 fun B₂ ρ₂ s₂ y e2 st2 r2 => ?_
  refine inplace_sound st2 hop rfl (rw.mono e2.sub) r2 hv fun B₃ s₃ u e3 st3 r3 => ?_
  obtain ⟨c1, c2, its', hpl', hr'⟩ := place_later a1 ((e1.trans e2).trans e3) st3 hm2
  have hlim : lim = 1100000 := rfl
  obtain ⟨_, rfl⟩ := r1.int_inv
  have hl := hr'.length
  simp at hl
  refine setItem_plain hpl' (Int.natCast_nonneg k) (by show (k : Int) < _; omega) (by show (k : Int) < _; omega) fun h' hl' hs' => ?_
  obtain ⟨e4, st4⟩ := st3.turn (k := s₃.toks) (h' := h') (m := some (.lst (ys.set k v))) c1 c2 (fun b o hb q => (hs'.2 b hb).trans q) (Nat.le_of_eq hs'.1.symm) fun m' q => Option.some.inj q ▸ ⟨_, hl', by
    have := hr'.set r3 k
    simpa using this⟩
  exact ⟨B₃, ρ₂, ((e1.trans e2).trans e3).trans e4, st4, trivial⟩
theorem aug_elim {P : Expr → Prop} {t e : Expr} {op : Operator} {o : Out Fl} (h : augStep g ih cx σ t op e = o) (h0 : augOk op = false → o = .bad → P t)
    (h1 : ∀ x p, augOk op = true → (cond (!(isLocK (lkN cx.scope.names x) || isCellK (lkN cx.scope.names x))) .bad <| optB ((readRaw g cx σ x).bind valOf) fun a => (ih.ex cx σ e).bindV fun b σ₁ => cond (isListV a) .bad <|
      optB (binop op a b) fun v => (store cx σ₁ x (.val v)).bind fun _ σ₂ => .ok .nxt σ₂) = o → P (.Name x p))
    (h2 : ∀ ob i p, augOk op = true → (cond (isSlice i) .bad <| noX <| optB (lstAt g cx σ ob) fun p => (ih.ex cx σ i).bindV fun iv σ₁ => optB ((at? σ₁.mem p.1).bind lstOf) fun xs => optB ((getIx (.list xs) iv).bind (onI some)) fun a =>
      (ih.ex cx σ₁ e).bindV fun b σ₂ => optB ((at? σ₂.mem p.1).bind lstOf) fun ys => optB (binop op (.int a) b) fun v => optB (setIx (.lst ys) iv v) fun m' => Out.ok Fl.nxt ⟨σ₂.loc, σ₂.mem.set p.1 (some m')⟩) = o → P (.Subscript ob i p))
    (h3 : ∀ t, o = .bad → P t) : P t := by
  unfold augStep at h
  rcases ho : augOk op with _ | _ <;> rw [ho] at h
  · exact h0 ho h.symm
  · rcases t with ⟨⟩
    case Name => exact h1 _ _ ho h
    case Subscript => exact h2 _ _ _ ho h
    all_goals exact h3 _ h.symm
theorem aug_sound (hb : BaseOk W g B₀) (H : IhOk W g B₀ ih n) (hA : Room W A' n) (X : Sta W B₀ B ρ env cx σ s) {t e : Expr} {op : Operator} {pos : Pos} {f : Fl} (h : augStep g ih cx σ t op e = .ok f σ') :
    wpAny (model W.prog W.w) A' (exec (.AugAssign t op e pos) env) (Good W B₀ env cx B ρ s σ' fun B' _ x => RF W B' f x) No s := by
  refine aug_elim (P := fun t => wpAny (model W.prog W.w) A' (exec (.AugAssign t op e pos) env) (Good W B₀ env cx B ρ s σ' fun B' _ x => RF W B' f x) No s) h (fun _ h => bad_ok h.symm) (fun x p hop h => ?_) (fun o i p hop h => ?_) fun _ h => bad_ok h.symm
  · obtain ⟨hkk, h1⟩ := cond_bt h
    obtain ⟨a, hr, h2⟩ := optB_ok h1
    obtain ⟨b, σ₁, h3, h4⟩ := Out.bindV_ok h2
    obtain ⟨hl, h5⟩ := cond_bt h4
    obtain ⟨v, hv, h6⟩ := optB_ok h5
    obtain ⟨rfl, h7⟩ := stored (u := ()) (σ₁ := σ₁) h6
    exact augName_sound H hA X hop (raw_val hr) h3 hl hv h7
  · obtain ⟨hsl, h1⟩ := cond_bt h
    obtain ⟨q, hp, h2⟩ := optB_ok (noX_ok h1)
    obtain ⟨iv, σ₁, h3, h4⟩ := Out.bindV_ok h2
    obtain ⟨xs, hm, h5⟩ := optB_ok h4
    obtain ⟨a, ha, h6⟩ := optB_ok h5
    obtain ⟨b, σ₂, h7, h8⟩ := Out.bindV_ok h6
    obtain ⟨ys, hm2, h9⟩ := optB_ok h8
    obtain ⟨v, hv, g1⟩ := optB_ok h9
    obtain ⟨m', hset, g2⟩ := optB_ok g1
    obtain ⟨rfl, rfl⟩ := ok_inj g2
    have lst : ∀ {mem : List (Option M)} {i : Nat} {xs : List V}, (at? mem i).bind lstOf = some xs → mem[i]? = some (some (.lst xs)) := fun h => by
      obtain ⟨m, k1, k2⟩ := obind h
      exact lstOf_inv k2 ▸ at_some k1
    have int : getIx (.list xs) iv = some (.int a) := by
      obtain ⟨w, k1, k2⟩ := obind ha
      obtain ⟨z, rfl, k3⟩ := onI_inv k2
      rw [k1, Option.some.inj k3]
    exact augSub_sound hb H hA X hop hsl hp h3 (lst hm) int h7 (lst hm2) hv hset
theorem RVs.eraseAt {vs : List V} {xs : List Value} (h : RVs W B vs xs) (k : Nat) : RVs W B (vs.eraseIdx k) (xs.eraseIdx k) := by
  induction vs generalizing xs k with
  | nil => rw [h.nil_inv]; exact .nil
  | cons v vs ih =>
    obtain ⟨x, xs, rfl, h1, h2⟩ := h.cons_inv
    rcases k with _ | k
    · exact h2
    · exact .cons h1 (ih h2 k)
inductive DelR (m : M) (i : V) (m' : M) : Prop
  | mk (xs : List V) (j : Int) (k : Nat) (h1 : m = .lst xs) (h2 : i = .int j) (h3 : m' = .lst (xs.eraseIdx k)) (h4 : Builtin.List.listFitsIndex j = true) (h5 : seqIndex? j xs.length = some k) (h6 : xs.length ≤ lim)
theorem drop_erase {α : Type} : ∀ (l : List α) (x : α), (x :: l).dropLast = (x :: l).eraseIdx l.length
  | [], _ => rfl
  | y :: l, x => by simp only [List.length_cons, List.eraseIdx_cons_succ, List.dropLast_cons_cons, drop_erase l y]
theorem delIx_ok {m m' : M} {i : V} (h : delIx m i = some m') : DelR m i m' := by
  obtain ⟨xs, h1, h2⟩ := obind h
  obtain ⟨j, rfl, h3⟩ := onI_inv h2
  obtain rfl := lstOf_inv h1
  rcases j with j | j
  · obtain ⟨hz, rfl⟩ := conds h3
    have hz := Bool.and_eq_true_iff.mp hz
    have hy := Bool.and_eq_true_iff.mp hz.1
    rcases xs with _ | ⟨x, r⟩
    · exact ff_tt hy.2
    obtain rfl := Nat.eq_of_beq_eq_true hy.1
    refine ⟨x :: r, 0, 0, rfl, rfl, rfl, by decide, ?_, Nat.le_of_ble_eq_true hz.2⟩
    unfold seqIndex?
    simp
  · obtain ⟨hz, rfl⟩ := conds h3
    have hz := Bool.and_eq_true_iff.mp hz
    have hy := Bool.and_eq_true_iff.mp hz.1
    rcases xs with _ | ⟨x, r⟩
    · exact ff_tt hy.2
    obtain rfl := Nat.eq_of_beq_eq_true hy.1
    refine ⟨x :: r, -1, r.length, rfl, rfl, by rw [drop_erase], by decide, ?_, Nat.le_of_ble_eq_true hz.2⟩
    unfold seqIndex?
    have e : ((-1 : Int) + ((x :: r).length : Nat)) = (r.length : Int) := by simp; omega
    rw [if_pos (by decide : (-1 : Int) < 0)]
    simp only [e]
    simp
    omega
theorem del_sound (hb : BaseOk W g B₀) (H : IhOk W g B₀ ih n) (hA : Room W A' n) (X : Sta W B₀ B ρ env cx σ s) {o i : Expr} {p pos : Pos} {σ₁ : S} {q : Str × Nat × M} {m m' : M} {iv : V}
    (hp : placeOf g cx σ o = some q) (h1 : ih.ex cx σ i = .ok (.val iv) σ₁) (hm : σ₁.mem[q.2.1]? = some (some m)) (hd : delIx m iv = some m') :
    wpAny (model W.prog W.w) A' (exec (.Delete [.Subscript o i p] pos) env) (Good W B₀ env cx B ρ s ⟨σ₁.loc, σ₁.mem.set q.2.1 (some m')⟩ fun B' _ x => RF W B' .nxt x) No s := by
  obtain ⟨xs, j, k, rfl, rfl, rfl, hf, hk, hle⟩ := delIx_ok hd
  refine wpAny_Delete (wpAny_deleteEach_cons (wpAny_delete_Subscript (place_load hb X hp fun ad a1 a2 a3 a4 => exV H h1 hA X fun B₁ ρ₁ s₁ x e1 st1 r1 => ?_)))
  have hlim : lim = 1100000 := rfl
  obtain ⟨b1, b2, its, hpl, hr⟩ := place_later a1 e1 st1 hm
  obtain ⟨_, rfl⟩ := r1.int_inv
  have hl := hr.length
  simp at hl
  refine wpAny_delItem_plain hpl hf (by rw [← hl]; exact hk) (fun h' hl' hs' => ?_) (by unfold sizeLine; omega)
  obtain ⟨e4, st4⟩ := st1.turn (k := s₁.toks) (h' := h') (m := some (.lst (xs.eraseIdx k))) b1 b2 (fun b o hb q => (hs'.2 b hb).trans q) (Nat.le_of_eq hs'.1.symm) fun m' q => Option.some.inj q ▸ ⟨_, hl', by
    have := hr.eraseAt k
    simpa using this⟩
  exact wpAny_deleteEach_nil ⟨B₁, ρ₁, e1.trans e4, st4, trivial⟩
theorem whileGo_sound (H : IhOk W g B₀ ih n) (hA : Room W A' n) (hT : Top W env) {t : Expr} {body : List Stmt} {f : Fl} {k : Nat} {σ : S} {B ρ s} {R : Result → Shared → Prop} (h : whileGo ih cx t body k σ = .ok f σ') (X : Sta W B₀ B ρ env cx σ s)
    (hR : ∀ fl s', Good W B₀ env cx B ρ s σ' (fun B' _ x => RF W B' f x) fl s' → R (.ok fl) s') : codeAny (model W.prog W.w) A' (.whileLoop t body [] env) R s := by
  induction k generalizing σ B ρ s with
  | zero => exact bad_ok h
  | succ k ihk =>
    obtain ⟨b, σ₁, h1, h2⟩ := Out.bind_ok h
    refine while_turn (good_step (β := Bool) (H.tr _ _ _ _ _ (noX_ok h1) _ _ _ _ _ hA X) fun B₁ ρ₁ s₁ x e1 st1 hx => ?_)
    rw [hx]
    cases b with
    | false =>
      obtain ⟨rfl, rfl⟩ := ok_inj h2
      simp only [Bool.false_eq_true, if_false]
      exact wpAny_execs_nil (hR _ _ ⟨B₁, ρ₁, e1, st1, trivial⟩)
    | true =>
      obtain ⟨f₁, σ₂, h3, h4⟩ := Out.bind_ok h2
      simp only [if_true]
      refine good_step (β := Flow) (H.sts _ _ _ _ _ h3 _ _ _ _ _ hA hT st1) fun B₂ ρ₂ s₂ fl e2 st2 rf => ?_
      have cont : whileGo ih cx t body k σ₂ = .ok f σ' → codeAny (model W.prog W.w) A' (.whileLoop t body [] env) R s₂ := fun h5 =>
        ihk h5 st2 fun fl s' hg => hR fl s' (hg.ext (e1.trans e2))
      rcases rf_inv rf with ⟨rfl, rfl⟩ | ⟨rfl, rfl⟩ | ⟨rfl, rfl⟩ | ⟨v, x, rfl, rfl, rf⟩
      · exact cont h4
      · obtain ⟨rfl, rfl⟩ := ok_inj h4
        exact hR _ _ ⟨B₂, ρ₂, e1.trans e2, st2, trivial⟩
      · exact cont h4
      · obtain ⟨rfl, rfl⟩ := ok_inj h4
        exact hR _ _ ⟨B₂, ρ₂, e1.trans e2, st2, rf⟩
theorem for_sound (hb : BaseOk W g B₀) (H : IhOk W g B₀ ih n) (hA : Room W A' n) (hT : Top W env) (X : Sta W B₀ B ρ env cx σ s) {t it : Expr} {body orelse : List Stmt} {pos : Pos} {f : Fl} {xs : List V} {σ₁ : S}
    (h1 : src g ih cx σ t it = .ok xs σ₁) (h2 : forGo ih cx t body orelse σ₁ xs = .ok f σ') :
    wpAny (model W.prog W.w) A' (exec (.For t it body orelse pos) env) (Good W B₀ env cx B ρ s σ' fun B' _ x => RF W B' f x) No s := by
  obtain ⟨hs1, hs2⟩ := src_sound (E := No) hb H hA X h1
  refine wpAny_For (wpAny_mono hs1 (fun x s₁ hx => wpAny_mono hx (fun r s₂ hd => ?_) fun _ _ e => e) fun _ _ e => e) hs2
  obtain ⟨B₁, ρ₁, s₀, I, wr, St, h₂, tk, rfl, e1, X1, rfl, sub, hz, hwr, hDr, hst⟩ := hd
  have Y := X1.grow (k := tk) sub hz
  have fresh : ∀ b, s₀.heap.objs.size ≤ b → B₁.get? b = none ∧ b ∉ ρ₁ ∧ b ≠ env.locals := fun b hb => ⟨by
    cases q : B₁.get? b with
    | none => rfl
    | some o => exact absurd (Heap.lt_size (X1.stays _ _ q)) (Nat.not_lt.mpr hb), fun hm => absurd (X1.lt _ hm) (Nat.not_lt.mpr hb), fun q => absurd X1.Llt (Nat.not_lt.mpr (q ▸ hb))⟩
  have ap : Apart wr env.locals B₁ ρ₁ { s₀ with heap := h₂, toks := tk } := fun b hb => ⟨(fresh b (hwr b hb).1).1, (fresh b (hwr b hb).1).2.1, (fresh b (hwr b hb).1).2.2, (hwr b hb).2⟩
  refine forGo_sound H hA hT (fun b hb e he q => absurd (X1.stk.at he q).1 (Nat.not_lt.mpr (hwr b hb).1)) (hDr A' hA.1) (i := 0) (List.drop_zero ..) (Nat.zero_le _) h2 Y (Sub.refl _) ap hst fun fl s' hg => ?_
  obtain ⟨B', ρ', ew, st, r⟩ := hg
  exact ⟨B', ρ', e1.trans (ew B₁ ρ₁ s₀ (Ext.grow sub hz) fun b hb => (hwr b hb).1), st, r⟩
end
end

section
open PySem PySem.Calls PyProof.Rows PySem.W
set_option backward.match.sparseCases false
set_option maxRecDepth 100000
set_option linter.unusedVariables false
structure Nudge (F ts : List Addr) (h h' : Heap) : Prop where
  size : h.objs.size ≤ h'.objs.size
  same : ∀ b o, b ∉ ts → b ∉ F → h.get? b = some o → h'.get? b = some o
  slots : ∀ b o, b ∉ ts → h.get? b = some o → ∃ sl, h'.get? b = some { o with slots := sl }
theorem Nudge.refl (F ts : List Addr) (h : Heap) : Nudge F ts h h := ⟨Nat.le_refl _, fun _ _ _ _ e => e, fun b o _ e => ⟨o.slots, e⟩⟩
theorem Nudge.trans {F ts : List Addr} {h₁ h₂ h₃ : Heap} (x : Nudge F ts h₁ h₂) (y : Nudge F ts h₂ h₃) : Nudge F ts h₁ h₃ :=
  ⟨Nat.le_trans x.size y.size, fun b o h1 h2 e => y.same b o h1 h2 (x.same b o h1 h2 e), fun b o h1 e => by obtain ⟨_, e₁⟩ := x.slots b o h1 e; obtain ⟨sl, e₂⟩ := y.slots b _ h1 e₁; exact ⟨sl, e₂⟩⟩
theorem Nudge.update {F ts : List Addr} {h : Heap} {a : Addr} (ha : a ∈ ts) (f : Obj → Obj) : Nudge F ts h (h.update a f) :=
  ⟨by rw [Heap.size_after_update]; exact Nat.le_refl _, fun b o h1 _ e => (Heap.get?_update_other h f (fun q : a = b => h1 (q ▸ ha))).trans e, fun b o h1 e => ⟨o.slots, (Heap.get?_update_other h f (fun q : a = b => h1 (q ▸ ha))).trans e⟩⟩
theorem Nudge.push {F ts : List Addr} {h : Heap} (o : Obj) : Nudge F ts h (h.push o) :=
  ⟨by simp, fun b o' _ _ e => Heap.get?_push_of_some _ e, fun b o' _ e => ⟨o'.slots, Heap.get?_push_of_some _ e⟩⟩
section
variable {M : Model} {A : Around} {E : Value → Shared → Prop} {s : Shared}
theorem entry_any {base : Heap} {env : Env} {outer : List Env} {L e : Addr} {oe : Obj} {vs : Array Value} {head : Value} {hadNext : Bool} {Q : Unit → Shared → Prop} {ts : List Addr}
    (hfr : A.frames = some (env :: outer)) (hl : s.heap.FunFrames base (env :: outer)) (hf : env.frame = some L)
    (he : s.heap.get? e = some oe) (hc : oe.cls = .type "StopIteration") (hd : oe.data = .fields vs) (hsz : 1 < vs.size) (het : e ∈ ts)
    (h : ∀ h' T, Nudge ((env :: outer).filterMap (·.frame)) ts s.heap h' → ExcAt h' e (some T) → s.heap.objs.size ≤ T → Q () { s with heap := h' }) :
    wpAny M A (do let a ← frameOf env; let pl ← entryPlaceOf L hadNext; let b ← EntryCells.newEntry head a .none (rawInt L) .none pl; setField (.ref e) 1 b) Q E s := by
  have hene : e ∉ (env :: outer).filterMap (·.frame) := fun hm => by
    obtain ⟨_, o, ho, hnf⟩ := hl.mem hm
    rw [he] at ho; injection ho with ho; subst ho; exact hnf vs hd
  refine wpAny_bind (wpAny_frameOf_fun hfr hl hf fun h₁ hs₁ => ?_)
  refine wpAny_bind (wpAny_entryPlaceOf fun pl hpl => ?_)
  unfold EntryCells.newEntry newFields
  refine wpAny_bind (wpAny_newObj_type ?_ (hpl.sizeOk5 _ _ _ _ _))
  have he₁ : h₁.get? e = some oe := (hs₁.2.1 e hene).trans he
  have n1 : Nudge ((env :: outer).filterMap (·.frame)) ts s.heap h₁ := ⟨Nat.le_of_eq hs₁.1.symm, fun b o _ hb q => (hs₁.2.1 b hb).trans q, fun b o _ q => hs₁.2.2 b o q⟩
  have he₂ := Heap.get?_push_of_some (h := h₁) { cls := .type "traceback", dict := none, data := .fields ([head, .ref L, .none, rawInt L, .none] ++ (if pl.isEmpty then List.replicate 6 Value.none else pl)).toArray } he₁
  have hTe : h₁.objs.size ≠ e := Nat.ne_of_gt (Heap.lt_size he₁)
  have hd₃ := Obj.data_mapFields hd (·.setIfInBounds 1 (Value.ref h₁.objs.size))
  have he₃ := Heap.get?_update_self (Obj.mapFields (·.setIfInBounds 1 (Value.ref h₁.objs.size))) he₂ (Obj.isFreed_of_fields hd₃)
  have hT₃ := (Heap.get?_update_other (h₁.push { cls := .type "traceback", dict := none, data := .fields ([head, .ref L, .none, rawInt L, .none] ++ (if pl.isEmpty then List.replicate 6 Value.none else pl)).toArray })
    (Obj.mapFields (·.setIfInBounds 1 (Value.ref h₁.objs.size))) (Ne.symm hTe)).trans (Heap.get?_push_size h₁ rfl)
  refine wpAny_setField he₂ hd hsz (h _ h₁.objs.size ((n1.trans (.push _)).trans (.update het _)) ⟨_, _, _, _, he₃, (Obj.cls_mapFields _ _).trans hc, hd₃, by simp [hsz], hTe, hT₃, (by show Value.type "traceback" ≠ Value.type "frame"; decide), rfl, ?_⟩ (Nat.le_of_eq hs₁.1.symm))
  simp only [List.size_toArray, List.length_append, List.length_cons, List.length_nil]; omega
theorem note_any {base : Heap} {env : Env} {outer : List Env} {L e : Addr} {t : Option Addr} {Q : Unit → Shared → Prop} {ts : List Addr}
    (hfr : A.frames = some (env :: outer)) (hl : s.heap.FunFrames base (env :: outer)) (hf : env.frame = some L) (hx : ExcAt s.heap e t) (het : e ∈ ts) (htt : ∀ T, t = some T → T ∈ ts)
    (h : ∀ h' T, Nudge ((env :: outer).filterMap (·.frame)) ts s.heap h' → ExcAt h' e (some T) → (t = some T ∨ s.heap.objs.size ≤ T) → Q () { s with heap := h' }) : wpAny M A (noteFrame (.ref e) env) Q E s := by
  unfold noteFrame
  simp only [hf]
  cases t with
  | none =>
    obtain ⟨oe, vs, he, hc, hd, h1⟩ := hx
    refine wpAny_bind (wpAny_field he hd h1 ?_)
    rw [if_neg (by decide)]
    exact entry_any hfr hl hf he hc hd (Array.getElem?_eq_some_iff.mp h1).1 het fun h' T n x z => h h' T n x (.inr z)
  | some T =>
    obtain ⟨oe, vs, oT, tv, he, hc, hd, h1, hTe, hT, hTf, hdT, h3⟩ := id hx
    refine wpAny_bind (wpAny_field he hd h1 ?_)
    rw [if_pos (show (Value.ref T != Value.none) = true from by simp)]
    refine wpAny_bind (wpAny_field hT hdT (x := tv[3]) (by simp [h3]) ?_)
    split
    · exact wpAny_pure (h s.heap T (Nudge.refl ..) hx (.inl rfl))
    · refine wpAny_bind (wpAny_setField hT hdT h3 ?_)
      have other : ∀ b, b ≠ T → (s.heap.update T (Obj.mapFields (·.setIfInBounds 3 Value.none))).get? b = s.heap.get? b := fun b hb => Heap.get?_update_other _ _ (Ne.symm hb)
      have noRecord : ∀ b o, s.heap.get? b = some o → (∀ vs, o.data ≠ .fields vs) → b ≠ T := fun b o hb hnf q => by
        rw [q, hT] at hb; injection hb with hb; subst hb; exact hnf tv hdT
      refine entry_any hfr (hl.of_keeps fun b o hb hnf => ⟨o, (other b (noRecord b o hb hnf)).trans hb, rfl⟩) hf ((other e (Ne.symm hTe)).trans he) hc hd (Array.getElem?_eq_some_iff.mp h1).1 het fun h' T' n x z => ?_
      exact h h' T' ((Nudge.update (htt T rfl) _).trans n) x (.inr (by simpa using z))
theorem flight_any {F ts : List Addr} {e T : Addr} {f : Option Addr} {Q : Unit → Shared → Prop} (hx : ExcAt s.heap e (some T)) (htt : T ∈ ts)
    (h : ∀ h', Nudge F ts s.heap h' → ExcAt h' e (some T) → Q () { s with heap := h' }) : wpAny M A (setFlight (.ref e) f) Q E s := by
  obtain ⟨oe, vs, oT, tv, he, hc, hd, h1, hTe, hT, hTf, hdT, h3⟩ := hx
  unfold setFlight
  refine wpAny_bind (wpAny_field he hd h1 ?_)
  rw [if_pos (show (Value.ref T != Value.none) = true from by simp)]
  refine wpAny_setField hT hdT h3 (h _ (.update htt _) ?_)
  exact ⟨oe, vs, _, _, (Heap.get?_update_other _ _ hTe).trans he, hc, hd, h1, hTe, Heap.get?_update_self _ hT (Obj.isFreed_of_fields (Obj.data_mapFields hdT _)), by rw [Obj.cls_mapFields]; exact hTf, Obj.data_mapFields hdT _, by simpa using h3⟩
end
end

section
open PySem PySem.Calls PyProof.Rows PySem.W
set_option backward.match.sparseCases false
set_option maxRecDepth 100000
set_option linter.unusedVariables false
noncomputable def framesOf (fs : List Env) : List Addr := fs.filterMap (·.frame)
section
variable {W : Wd} {g : Gl} {B₀ B : Heap} {ρ : List Addr} {env : Env} {cx : Cx} {σ σ' : S} {s : Shared} {A' : Around} {n : Nat} {ih : Ih} {E : Value → Shared → Prop}
theorem StkOk.mem {fs : List Env} {h : Heap} (X : StkOk fs B ρ h) {F : Addr} (hF : F ∈ framesOf fs) : ∃ o, h.get? F = some o ∧ o.cls = .type "frame" ∧ B.get? F = none ∧ F ∉ ρ := by
  obtain ⟨e, he, hf⟩ := List.mem_filterMap.mp hF
  obtain ⟨_, F', o, h1, h2, h3, _, h5, h6⟩ := X e he
  obtain rfl := Option.some.inj (hf.symm.trans h1)
  exact ⟨o, h2, h3, h5, h6⟩
theorem StkOk.fun {h : Heap} : ∀ {fs : List Env}, StkOk fs B ρ h → h.FunFrames {} fs
  | [], _ => trivial
  | e :: r, X => by
    obtain ⟨h0, F, o, h1, h2, h3, ⟨es, ep, h4⟩, h5, h6⟩ := X e (List.mem_cons_self ..)
    exact ⟨h0, ⟨F, o, h1, rfl, h2, fun vs q => by rw [h4] at q; cases q⟩, StkOk.fun fun e' he' => X e' (List.mem_cons_of_mem _ he')⟩
noncomputable def Nob (W : Wd) (env : Env) (B : Heap) (ρ : List Addr) (ts : List Addr) : Prop := ∀ b ∈ ts, B.get? b = none ∧ b ∉ ρ ∧ b ≠ env.locals ∧ b ∉ framesOf W.fs
theorem Sta.nudge (X : Sta W B₀ B ρ env cx σ s) {ts : List Addr} (hn : Nob W env B ρ ts) {h' : Heap} {k : Nat} (N : Nudge (framesOf W.fs) ts s.heap h') : Sta W B₀ B ρ env cx σ { s with heap := h', toks := k } := by
  have hB : ∀ b o, B.get? b = some o → b ∉ ts ∧ b ∉ framesOf W.fs := by
    intro b o e
    constructor
    · intro hm; exact nos ((hn b hm).1.symm.trans e)
    · intro hm
      obtain ⟨_, _, _, h3, _⟩ := X.stk.mem hm
      exact nos (h3.symm.trans e)
  refine ⟨fun b o e => N.same b o (hB b o e).1 (hB b o e).2 (X.stays b o e), X.base, X.ok, ?_, X.L, X.len, X.nodup, fun a ha => Nat.lt_of_lt_of_le (X.lt a ha) N.size, fun i m hm => ?_, X.fr_of N.size fun o ho => ?_, X.stk.step fun F o h0 h1 h2 ⟨e, he, hF⟩ h3 h4 h5 => ⟨?_, h1, h2⟩⟩
  · obtain ⟨m, ⟨o, es, ep, ho, r⟩, h⟩ := X.locs
    obtain ⟨sl, hs⟩ := N.slots _ o (fun hm => (hn _ hm).2.2.1 rfl) ho
    exact ⟨m, ⟨_, es, ep, hs, r⟩, h⟩
  · obtain ⟨a, h1, h2, h3⟩ := X.mem i m hm
    have hin := List.mem_of_getElem? h1
    exact ⟨a, h1, h2, h3.at fun o e => N.same a o (fun hm => (hn a hm).2.1 hin) (fun hm => (X.stk.mem hm).choose_spec.2.2.2 hin) e⟩
  · obtain ⟨sl, hs⟩ := N.slots _ o (fun hm => (hn _ hm).2.2.1 rfl) ho
    exact ⟨_, hs, rfl⟩
  · obtain ⟨sl, hs⟩ := N.slots F o (fun hm => (hn F hm).2.2.2 (List.mem_filterMap.mpr ⟨e, he, hF⟩)) h3
    exact ⟨_, hs, h4, h5⟩
theorem Ext.nudge {L : Addr} {B₁ : Heap} {ρ₁ : List Addr} {s₀ : Shared} (e : Ext L B₁ ρ₁ s₀ B ρ s) (X : StkOk W.fs B ρ s.heap) {ts : List Addr} (hts : ∀ b ∈ ts, s₀.heap.objs.size ≤ b) {h' : Heap} {k : Nat} (N : Nudge (framesOf W.fs) ts s.heap h') :
    Ext L B₁ ρ₁ s₀ B ρ { s with heap := h', toks := k } := by
  refine ⟨e.sub, e.new, e.rho, fun b o h1 h2 h3 => ?_, Nat.le_trans e.size N.size, e.rest⟩
  obtain ⟨o', h4, h5⟩ := e.keep b o h1 h2 h3
  have hbt : b ∉ ts := fun hm => Nat.lt_irrefl _ (Nat.lt_of_lt_of_le (Heap.lt_size h3) (hts b hm))
  by_cases hF : b ∈ framesOf W.fs
  · obtain ⟨o'', h6, h7, _⟩ := X.mem hF
    obtain rfl := Option.some.inj (h4.symm.trans h6)
    obtain ⟨sl, hs⟩ := N.slots b o' hbt h4
    exact ⟨_, hs, h5.trans (.inr ⟨h7, sl, rfl⟩)⟩
  · exact ⟨o', N.same b o' hbt hF h4, h5⟩
noncomputable def tsOf (e : Addr) (t : Option Addr) : List Addr := e :: t.toList
theorem mem_tsOf {e : Addr} {t : Option Addr} {b : Addr} : b ∈ tsOf e t ↔ (b = e ∨ t = some b) := by
  unfold tsOf
  cases t <;> simp [eq_comm]
theorem Own.nob {s₀ : Shared} {e : Addr} {t : Option Addr} (o : Own e t B ρ s₀ s) (X : Sta W B₀ B ρ env cx σ s) (hL : env.locals < s₀.heap.objs.size) (hF : ∀ F ∈ framesOf W.fs, F < s₀.heap.objs.size) : Nob W env B ρ (tsOf e t) := fun b hb => by
  obtain ⟨h1, h2, h3, h4⟩ := o b (mem_tsOf.mp hb)
  exact ⟨h1, h2, fun q => Nat.lt_irrefl _ (Nat.lt_of_lt_of_le hL (q ▸ h3)), fun hm => Nat.lt_irrefl _ (Nat.lt_of_lt_of_le (hF b hm) h3)⟩
theorem StkOk.all_lt {fs : List Env} {h : Heap} (X : StkOk fs B ρ h) : ∀ F ∈ framesOf fs, F < h.objs.size := fun F hF => by obtain ⟨_, h1, _⟩ := X.mem hF; exact Heap.lt_size h1
theorem Exc.ext {B₁ : Heap} {ρ₁ : List Addr} {s₁ : Shared} {x : Value} {s' : Shared} (e : Ext env.locals B ρ s B₁ ρ₁ s₁) (h : Exc W B₀ env cx B₁ ρ₁ s₁ σ' x s') : Exc W B₀ env cx B ρ s σ' x s' := by
  obtain ⟨B', ρ', a, t, hx, e1, st, hc, ho⟩ := h
  exact ⟨B', ρ', a, t, hx, e.trans e1, st, hc, ho.ext e.size⟩
theorem Exc.noted (X : Sta W B₀ B ρ env cx σ s) (hA : A'.frames = some W.fs) (hT : Top W env) {x : Value} {s' : Shared} (h : Exc W B₀ env cx B ρ s σ' x s') {M' : Model} {Q : Unit → Shared → Prop}
    (k : ∀ s'' a T B' ρ', x = .ref a → Ext env.locals B ρ s B' ρ' s'' → Sta W B₀ B' ρ' env cx σ' s'' → ExcAt s''.heap a (some T) → Own a (some T) B' ρ' s s'' → Q () s'') : wpAny M' A' (noteFrame x env) Q E s' := by
  obtain ⟨B', ρ', a, t, rfl, e1, st, hc, ho⟩ := h
  obtain ⟨hf, outer, hfs⟩ := hT
  have hnob := ho.nob st X.Llt (X.stk.all_lt)
  refine note_any (ts := tsOf a t) (base := {}) (outer := outer) (by rw [hA, hfs]) (hfs ▸ st.stk.fun) hf hc (mem_tsOf.mpr (.inl rfl)) (fun T q => mem_tsOf.mpr (.inr q)) fun h' T N hx hT' => ?_
  have N' : Nudge (framesOf W.fs) (tsOf a t) s'.heap h' := by rw [hfs]; exact N
  have st2 := st.nudge (k := s'.toks) hnob N'
  have e2 : Ext env.locals B ρ s B' ρ' { s' with heap := h' } := Ext.nudge (k := s'.toks) e1 st.stk (fun b hb => (ho b (mem_tsOf.mp hb)).2.2.1) N'
  refine k _ a T B' ρ' rfl e2 st2 hx fun b hb => ?_
  rcases hb with rfl | hb
  · obtain ⟨h1, h2, h3, h4⟩ := ho b (.inl rfl)
    exact ⟨h1, h2, h3, Nat.lt_of_lt_of_le h4 N.size⟩
  · obtain rfl := Option.some.inj hb
    rcases hT' with q | q
    · obtain ⟨h1, h2, h3, h4⟩ := ho T (.inr q)
      exact ⟨h1, h2, h3, Nat.lt_of_lt_of_le h4 N.size⟩
    · refine ⟨?_, fun hm => absurd (st.lt _ hm) (Nat.not_lt.mpr q), Nat.le_trans e1.size q, ?_⟩
      · cases z : B'.get? T with
        | none => rfl
        | some o => exact absurd (Heap.lt_size (st.stays _ _ z)) (Nat.not_lt.mpr q)
      · obtain ⟨_, _, oT, _, _, _, _, _, _, hT1, _⟩ := hx
        exact Heap.lt_size hT1
theorem Exc.flown {s₀ : Shared} {B₁ : Heap} {ρ₁ : List Addr} {a T : Addr} {f : Option Addr} (e1 : Ext env.locals B₁ ρ₁ s₀ B ρ s) (X : Sta W B₀ B ρ env cx σ s) (hL : env.locals < s₀.heap.objs.size) (hF : ∀ F ∈ framesOf W.fs, F < s₀.heap.objs.size)
    (hx : ExcAt s.heap a (some T)) (ho : Own a (some T) B ρ s₀ s) {M' : Model} {Q : Unit → Shared → Prop}
    (k : ∀ s'', Ext env.locals B₁ ρ₁ s₀ B ρ s'' → Sta W B₀ B ρ env cx σ s'' → ExcAt s''.heap a (some T) → Own a (some T) B ρ s₀ s'' → Q () s'') : wpAny M' A' (setFlight (.ref a) f) Q E s := by
  have hnob := ho.nob X hL hF
  refine flight_any (F := framesOf W.fs) (ts := tsOf a (some T)) hx (mem_tsOf.mpr (.inr rfl)) fun h' N hx' => ?_
  exact k _ (Ext.nudge (k := s.toks) e1 X.stk (fun b hb => (ho b (mem_tsOf.mp hb)).2.2.1) N) (X.nudge (k := s.toks) hnob N) hx' (ho.size N.size)
end
end

section
open PySem PySem.Calls PyProof.Rows PySem.W
set_option backward.match.sparseCases false
set_option maxRecDepth 100000
set_option linter.unusedVariables false
section
variable {W : Wd} {g : Gl} {B₀ B : Heap} {ρ : List Addr} {env : Env} {cx : Cx} {σ σ' : S} {s : Shared} {A' : Around} {n : Nat} {ih : Ih} {E : Value → Shared → Prop}
noncomputable abbrev Nay {α : Type} : α → Shared → Prop := fun _ _ => False
theorem next_exc (hb : BaseOk W g B₀) (H : IhOk W g B₀ ih n) (hA : Room W A' n) (X : Sta W B₀ B ρ env cx σ s) {x : Str} {e : Expr} {i : Nat} {p pos : Pos}
    (hr : readRaw g cx σ x = some (.val (.bf .next))) (hs : starred e = false) (h1 : ih.ex cx σ e = .ok (.plc i) σ') (hm : σ'.mem[i]? = some (some (.itr []))) :
    wpAny (model W.prog W.w) A' (eval (.Call (.Name x p) [e] [] pos) env) Nay (Exc W B₀ env cx B ρ s ⟨σ'.loc, σ'.mem.set i none⟩) s := by
  refine bf1_call hb H hA X hr hs h1 fun B₁ ρ₁ s₁ y e1 st1 ra => ?_
  obtain ⟨a, rfl, ra'⟩ := ra.plc_inv
  obtain ⟨a', h2, h3, ax, ps, items, vs, hit, hl, hvs, hd, hne⟩ := st1.mem i _ hm
  obtain rfl : a = a' := Option.some.inj (ra'.symm.trans h2)
  have hnone : items[ps]? = none := by
    have hlen := congrArg List.length hd
    simp at hlen
    have := hvs.length
    simp at this
    simp; omega
  refine next_stop hA.1 hit (st1.list hl) hnone fun h₁ h' ea ob vs' hs1 sub he hob hc hdd h1n => ?_
  have hz : s₁.heap.objs.size ≤ h'.objs.size := Nat.le_of_lt (Nat.lt_of_le_of_lt he (Heap.lt_size hob))
  obtain ⟨e2, st2⟩ := st1.turn (k := s₁.toks) (h' := h') (m := none) h2 h3 (fun b o hb q => sub _ _ ((hs1.2 b hb).trans q)) hz (fun m' q => nos q)
  refine ⟨B₁, ρ₁, ea, none, rfl, e1.trans e2, st2, ⟨ob, vs', hob, hc, hdd, h1n⟩, fun b hb => ?_⟩
  rcases hb with rfl | hb
  · refine ⟨?_, fun hm => absurd (st1.lt _ hm) (Nat.not_lt.mpr he), Nat.le_trans e1.size he, Heap.lt_size hob⟩
    rcases z : B₁.get? b with _ | o
    · rfl
    · exact absurd (Heap.lt_size (st1.stays _ _ z)) (Nat.not_lt.mpr he)
  · exact nos hb
theorem def_exc (hb : BaseOk W g B₀) (H : IhOk W g B₀ ih n) (hA : Room W A' n) (X : Sta W B₀ B ρ env cx σ s) {x nm : Str} {es : List Expr} {as : List A} {p pos : Pos} {σ₁ σ₂ : S}
    (hr : readRaw g cx σ x = some (.val (.fn nm))) (h1 : exs ih cx σ es = .ok as σ₁) (h2 : ih.call σ₁.mem nm as = .exc σ₂) (hf : ∃ f, g.fns nm = some f) :
    wpAny (model W.prog W.w) A' (eval (.Call (.Name x p) es [] pos) env) Nay (Exc W B₀ env cx B ρ s ⟨σ₁.loc, σ₂.mem⟩) s := by
  refine fn_call hb H hA X hr h1 hf fun a B₁ ρ₁ s₁ xs ha e1 st1 r1 => wpAny_call (codeAny_mono (H.callX _ _ _ _ h2 A' B₁ ρ₁ s₁ xs hA st1.c r1 _ ha) fun r s' hc => ?_)
  obtain ⟨ea, t, B', rfl, e2, c2, hx, ho⟩ := hc
  obtain ⟨e3, st3⟩ := st1.after_call e2 c2
  exact ⟨B', ρ₁, ea, t, rfl, e1.trans e3, st3, hx, ho.ext e1.size⟩
theorem fnCall_exc (hb : BaseOk W g B₀) (H : IhOk W g B₀ ih n) (hA : Room W A' n) (X : Sta W B₀ B ρ env cx σ s) {x nm : Str} {p : Pos} {es : List Expr} {pos : Pos} (hr : readRaw g cx σ x = some (.val (.fn nm))) (h : fnCall g ih cx σ nm es = .exc σ') :
    wpAny (model W.prog W.w) A' (eval (.Call (.Name x p) es [] pos) env) Nay (Exc W B₀ env cx B ρ s σ') s := by
  obtain ⟨hf, h⟩ := cond_xt h
  have hf := Option.isSome_iff_exists.mp (not_f hf)
  rcases Out.bind_exc h with h1 | ⟨as, σ₁, h1, h2⟩
  · exact noX_exc h1
  · have h1 := noX_ok h1
    rcases hv : valsOf as with _ | vs <;> rw [hv] at h2
    · rcases h3 : ih.call σ₁.mem nm as with ⟨v, σ₂⟩ | σ₂ | _ <;> rw [h3] at h2
      · exact ok_exc h2
      · obtain rfl := exc_inj h2
        exact def_exc hb H hA X hr h1 h3 hf
      · exact bad_exc h2
    · rcases Out.bind_exc h2 with h3 | ⟨v, σ₂, h3, h4⟩
      · exact noX_exc h3
      · exact ok_exc h4
inductive NxtX (σ₁ : S) (i : Nat) (σ' : S) : Prop
  | mk (h1 : σ₁.mem[i]? = some (some (.itr []))) (h3 : σ' = ⟨σ₁.loc, σ₁.mem.set i none⟩)
theorem nxt_x {σ₁ : S} {i : Nat} (h : nextAt σ₁ i = .exc σ') : NxtX σ₁ i σ' := by
  obtain ⟨xs, h1, h2⟩ := optB_exc h
  obtain ⟨m, h3, h4⟩ := obind h1
  obtain rfl := itrOf_inv h4
  rcases xs with _ | ⟨x, r⟩
  · exact ⟨at_some h3, (exc_inj h2).symm⟩
  · exact ok_exc h2
theorem bfCall_exc (hb : BaseOk W g B₀) (H : IhOk W g B₀ ih n) (hA : Room W A' n) (X : Sta W B₀ B ρ env cx σ s) {x : Str} {p : Pos} {b : Bf} {e : Expr} {pos : Pos} (hr : readRaw g cx σ x = some (.val (.bf b))) (hs : starred e = false) (h : bfCall g ih cx σ b e = .exc σ') :
    wpAny (model W.prog W.w) A' (eval (.Call (.Name x p) [e] [] pos) env) Nay (Exc W B₀ env cx B ρ s σ') s := by
  rcases b with ⟨⟩
  case next =>
    rcases Out.bind_exc h with h1 | ⟨a₁, σ₁, h1, h2⟩
    · exact noX_exc h1
    · obtain ⟨i, h3, h4⟩ := optB_exc h2
      obtain rfl := plcOf_inv h3
      obtain ⟨h5, rfl⟩ := nxt_x h4
      exact next_exc hb H hA X hr hs (noX_ok h1) h5
  case sorted =>
    change sortGo g ih cx σ e = _ at h
    unfold sortGo at h
    rcases q : argOf g cx isSetB σ e with _ | e' <;> rw [q] at h
    · exact noX_exc h
    · obtain ⟨hs', h⟩ := cond_xt h
      exact noX_exc h
  case len =>
    change lenGo g ih cx σ e = _ at h
    unfold lenGo at h
    rcases q : lstAt g cx σ e with _ | u <;> rw [q] at h
    · exact noX_exc h
    · obtain ⟨hz, h⟩ := cond_tx h
      exact ok_exc h
  all_goals exact noX_exc h
theorem exCall_exc (hb : BaseOk W g B₀) (H : IhOk W g B₀ ih n) (hA : Room W A' n) (X : Sta W B₀ B ρ env cx σ s) {f : Expr} {es : List Expr} {pos : Pos} (h : exCall g ih cx σ f es pos = .exc σ') :
    wpAny (model W.prog W.w) A' (eval (.Call f es [] pos) env) Nay (Exc W B₀ env cx B ρ s σ') s := by
  rcases f with ⟨⟩
  case Attribute o nm apos =>
    obtain ⟨m, hm, h⟩ := optB_exc h
    obtain ⟨hk, h⟩ := cond_xt h
    exact noX_exc h
  case Name x p =>
    obtain ⟨v, hr, h⟩ := optB_exc h
    rcases q : fnOf? v with _ | nm <;> rw [q] at h
    · obtain ⟨b, h1, h2⟩ := optB_exc h
      obtain ⟨e, h3, h4⟩ := optB_exc h2
      obtain ⟨hs, h5⟩ := cond_xt h4
      obtain rfl := bfOf_inv h1
      obtain rfl := one_inv h3
      exact bfCall_exc hb H hA X (raw_val hr) hs h5
    · obtain rfl := fnOf_inv q
      exact fnCall_exc hb H hA X (raw_val hr) h
  all_goals exact bad_exc h
theorem exSub_exc (H : IhOk W g B₀ ih n) (hA : Room W A' n) (hT : Top W env) (X : Sta W B₀ B ρ env cx σ s) {o i : Expr} {pos : Pos} (h : exSub g ih cx σ o i = .exc σ') :
    wpAny (model W.prog W.w) A' (eval (.Subscript o i pos) env) Nay (Exc W B₀ env cx B ρ s σ') s := by
  have main : ∀ {i : Expr}, ((noX (ih.ex cx σ o)).bindV fun ov σ₁ => (ih.ex cx σ₁ i).bindV fun iv σ₂ => Out.of ((getIx ov iv).map A.val) σ₂) = .exc σ' → wpAny (model W.prog W.w) A' (eval (.Subscript o i pos) env) Nay (Exc W B₀ env cx B ρ s σ') s := fun {i} h => by
    rcases Out.bindV_exc h with h1 | ⟨ov, σ₁, h1, h2⟩
    · exact noX_exc h1
    · rcases Out.bindV_exc h2 with h3 | ⟨iv, σ₂, h3, h4⟩
      · refine Subscript_ (exV H (noX_ok h1) hA X fun B₁ ρ₁ s₁ x e1 st1 r1 => ?_)
        exact wpAny_mono (H.exX _ _ _ _ h3 _ _ _ _ _ hA hT st1) (fun _ _ f => f.elim) fun _ _ hx => hx.ext e1
      · exact Out.of_exc h4
  refine exSub_elim (P := fun i => wpAny (model W.prog W.w) A' (eval (.Subscript o i pos) env) Nay (Exc W B₀ env cx B ρ s σ') s) h (fun lo hi st p h => noX_exc h) (fun i hns h => ?_)
  unfold exIx at h
  rcases q : placeOf g cx σ o with _ | p <;> rw [q] at h
  · exact main h
  · exact noX_exc h
theorem exStep_exc (hb : BaseOk W g B₀) (H : IhOk W g B₀ ih n) (hA : Room W A' n) (hT : Top W env) (X : Sta W B₀ B ρ env cx σ s) {e : Expr} (h : exStep g ih cx σ e = .exc σ') :
    wpAny (model W.prog W.w) A' (eval e env) Nay (Exc W B₀ env cx B ρ s σ') s :=
  exStep_elim (P := fun e => wpAny (model W.prog W.w) A' (eval e env) Nay (Exc W B₀ env cx B ρ s σ') s) h (fun o i p h => exSub_exc H hA hT X h) (fun f es ks p h => by
    obtain ⟨hk, h1⟩ := cond_tx h
    obtain rfl := isEmpty_inv hk
    exact exCall_exc hb H hA X h1) fun e h => noX_exc h
theorem store_exc {x : Str} {a : A} {P : Prop} (h : store cx σ x a = .exc σ') : P := by
  obtain ⟨_, _, h1⟩ := optB_exc h
  exact ok_exc h1
theorem stored_exc {o : Out Unit} (h : (o.bind fun _ σ₂ => Out.ok Fl.nxt σ₂) = .exc σ') : o = .exc σ' := by
  rcases Out.bind_exc h with h3 | ⟨_, σ₂, h3, h4⟩
  · exact h3
  · exact ok_exc h4
theorem assignName_exc (H : IhOk W g B₀ ih n) (hA : Room W A' n) (hT : Top W env) (X : Sta W B₀ B ρ env cx σ s) {x : Str} {p : Pos} {e : Expr} {pos : Pos} (h : assignName g ih cx σ x e = .exc σ') :
    wpAny (model W.prog W.w) A' (exec (.Assign [.Name x p] e pos) env) Nay (Exc W B₀ env cx B ρ s σ') s := by
  refine assignName_elim (P := fun e => wpAny (model W.prog W.w) A' (exec (.Assign [.Name x p] e pos) env) Nay (Exc W B₀ env cx B ρ s σ') s) h (fun elt cs scope q h => noX_exc h) (fun kx vx cs scope q h => noX_exc h) (fun e h => ?_)
  obtain ⟨hc, h1⟩ := cond_xt h
  rcases q : isF e with _ | _ <;> rw [q] at h1
  · rcases Out.bind_exc h1 with h2 | ⟨a, σ₁, h2, h3⟩
    · exact name_plain (notComp hc _ _) (wpAny_mono (H.exX _ _ _ _ h2 _ _ _ _ _ hA hT X) (fun _ _ f => f.elim) fun _ _ hx => hx)
    · exact store_exc (stored_exc h3)
  · exact noX_exc h1
theorem assign_exc (H : IhOk W g B₀ ih n) (hA : Room W A' n) (hT : Top W env) (X : Sta W B₀ B ρ env cx σ s) {ts : List Expr} {e : Expr} {pos : Pos} (h : assignStep g ih cx σ ts e = .exc σ') :
    wpAny (model W.prog W.w) A' (exec (.Assign ts e pos) env) Nay (Exc W B₀ env cx B ρ s σ') s := by
  obtain ⟨t, g1, h1⟩ := optB_exc h
  obtain rfl := one_inv g1
  rcases t with ⟨⟩
  case Name x p => exact assignName_exc H hA hT X h1
  case Tuple => exact noX_exc h1
  case Subscript => exact noX_exc h1
  all_goals exact bad_exc h1
theorem aug_exc (H : IhOk W g B₀ ih n) (hA : Room W A' n) (hT : Top W env) (X : Sta W B₀ B ρ env cx σ s) {t e : Expr} {op : Operator} {pos : Pos} (h : augStep g ih cx σ t op e = .exc σ') :
    wpAny (model W.prog W.w) A' (exec (.AugAssign t op e pos) env) Nay (Exc W B₀ env cx B ρ s σ') s := by
  refine aug_elim (P := fun t => wpAny (model W.prog W.w) A' (exec (.AugAssign t op e pos) env) Nay (Exc W B₀ env cx B ρ s σ') s) h (fun _ h => bad_exc h.symm) (fun x p hop h => ?_) (fun o i p hop h => ?_) fun _ h => bad_exc h.symm
  · obtain ⟨hkk, h1⟩ := cond_xt h
    have hk : lkN cx.scope.names x = some .local ∨ lkN cx.scope.names x = some .cell := (Bool.or_eq_true_iff.mp (not_f hkk)).elim (fun z => .inl (loc_of z)) fun z => .inr (cell_of z)
    obtain ⟨a, hr, h2⟩ := optB_exc h1
    rcases Out.bindV_exc h2 with h3 | ⟨b, σ₁, h3, h4⟩
    · exact wpAny_AugAssign_Name (load_lc X (raw_val hr) hk fun v rv => wpAny_mono (H.exX _ _ _ _ h3 _ _ _ _ _ hA hT X) (fun _ _ f => f.elim) fun _ _ hx => hx)
    · obtain ⟨_, h5⟩ := cond_xt h4
      obtain ⟨v, _, h6⟩ := optB_exc h5
      exact store_exc (stored_exc h6)
  · obtain ⟨_, h1⟩ := cond_xt h
    exact noX_exc h1
theorem while_exc (H : IhOk W g B₀ ih n) (hA : Room W A' n) (hT : Top W env) {t : Expr} {body : List Stmt} {k : Nat} {σ : S} {B ρ s} {R : Result → Shared → Prop} (h : whileGo ih cx t body k σ = .exc σ') (X : Sta W B₀ B ρ env cx σ s)
    (hR : ∀ s'' a T B' ρ', Ext env.locals B ρ s B' ρ' s'' → Sta W B₀ B' ρ' env cx σ' s'' → ExcAt s''.heap a (some T) → Own a (some T) B' ρ' s s'' → R (.error (.ref a)) s'') : codeAny (model W.prog W.w) A' (.whileLoop t body [] env) R s := by
  induction k generalizing σ B ρ s with
  | zero => exact bad_exc h
  | succ k ihk =>
    rcases Out.bind_exc h with h1 | ⟨b, σ₁, h1, h2⟩
    · exact noX_exc h1
    · refine while_turn (good_step (β := Bool) (H.tr _ _ _ _ _ (noX_ok h1) _ _ _ _ _ hA X) fun B₁ ρ₁ s₁ x e1 st1 hx => ?_)
      rw [hx]
      cases b with
      | false => exact ok_exc h2
      | true =>
        simp only [if_true]
        rcases Out.bind_exc h2 with h3 | ⟨f₁, σ₂, h3, h4⟩
        · refine wpAny_mono (H.stsX _ _ _ _ h3 _ _ _ _ _ hA hT st1) (fun _ _ f => f.elim) fun x s' hx => ?_
          exact (hx.ext e1).noted X hA.2.2.2 hT fun s'' a T B' ρ' hxa e2 st2 hc ho => hxa ▸ hR s'' a T B' ρ' e2 st2 hc ho
        · refine good_step (β := Flow) (H.sts _ _ _ _ _ h3 _ _ _ _ _ hA hT st1) fun B₂ ρ₂ s₂ fl e2 st2 rf => ?_
          have cont : whileGo ih cx t body k σ₂ = .exc σ' → codeAny (model W.prog W.w) A' (.whileLoop t body [] env) R s₂ := fun h5 =>
            ihk h5 st2 fun s'' a T B' ρ' e3 st3 hc ho => hR s'' a T B' ρ' ((e1.trans e2).trans e3) st3 hc (ho.ext (e1.trans e2).size)
          rcases rf_inv rf with ⟨rfl, rfl⟩ | ⟨rfl, rfl⟩ | ⟨rfl, rfl⟩ | ⟨v, x, rfl, rfl, rf⟩
          · exact cont h4
          · exact ok_exc h4
          · exact cont h4
          · exact ok_exc h4
theorem while_stmt_exc (H : IhOk W g B₀ ih n) (hA : Room W A' n) (hT : Top W env) (X : Sta W B₀ B ρ env cx σ s) {t : Expr} {body : List Stmt} {pos : Pos} {k : Nat} (h : whileGo ih cx t body k σ = .exc σ') :
    wpAny (model W.prog W.w) A' (exec (.While t body [] pos) env) Nay (Exc W B₀ env cx B ρ s σ') s := by
  refine wpAny_While (while_exc H hA hT h X fun s'' a T B' ρ' e1 st hc ho => ?_)
  obtain ⟨oe, vs, oT, tv, he, hcl, hd, h1, hTe, hT1, hTf, hdT, h3⟩ := id hc
  refine wpAny_bind (wpAny_field he hd h1 ?_)
  rw [if_neg (show ¬ ((Value.ref T == Value.none) = true) from Bool.false_ne_true)]
  exact Exc.flown e1 st X.Llt X.stk.all_lt hc ho fun s₃ e2 st2 hc2 ho2 => ⟨B', ρ', a, some T, rfl, e2, st2, hc2, ho2⟩
end
end

section
open PySem PySem.Calls PyProof.Rows PySem.W
set_option backward.match.sparseCases false
set_option maxRecDepth 100000
set_option linter.unusedVariables false
theorem stop_exc : isSubtype (.type "StopIteration") (.type "BaseException") = pure true := by rw [isSubtype_type]; kernel_rfl
theorem stop_nt : isSubtype (.type ((Manifest.find? "StopIteration").elim "type" fun x => x.metatype)) (.type "tuple") = pure false := by
  rw [show ((Manifest.find? "StopIteration").elim "type" fun x => x.metatype) = "type" from by kernel_rfl, isSubtype_type]; kernel_rfl
section
variable {W : Wd} {g : Gl} {B₀ B : Heap} {ρ : List Addr} {env : Env} {cx : Cx} {σ σ' : S} {s : Shared} {A' : Around} {n : Nat} {ih : Ih} {E : Value → Shared → Prop}
theorem readRaw_glob {σ₁ : S} {x : Str} {a : A} (h : readRaw g cx σ x = some a) (hk : (isCellK (lkN cx.scope.names x) || isLocK (lkN cx.scope.names x)) = false) : readRaw g cx σ₁ x = some a := by
  obtain ⟨h0, r⟩ := raw_r h
  have hk := Bool.or_eq_false_iff.mp hk
  rcases r with ⟨q, h⟩ | ⟨i, q, hi, hm⟩ | ⟨v, q, hg, rfl⟩
  · rw [q] at hk; exact tt_ff hk.2
  · rw [q] at hk; exact tt_ff hk.1
  · unfold readRaw
    rw [h0, q, hg]; rfl
theorem pair_ret (hb : BaseOk W g B₀) (X : Sta W B₀ B ρ env cx σ s) {M' : Model} {x y : Str} {k : Nat} {p q r r' : Pos} {a b : V} {σ₂ σ₃ : S} {Q : Flow → Shared → Prop} (h1 : readName g cx σ x = .ok (.val a) σ₂) (h2 : readName g cx σ₂ y = .ok (.val b) σ₃)
    (hQ : ∀ B' v s', Ext env.locals B ρ s B' ρ s' → Sta W B₀ B' ρ env cx σ₃ s' → RV W B' (.tup [a, b]) v → Q (.ret v) s') :
    wpAny M' A' (execs [.Return (some (.Tuple [.Name x p, .Name y q] k r)) r'] env) Q E s := by
  refine wpAny_execs_cons (wpAny_Return_some (Tuple_ ?_))
  rw [starEach_cons rfl, starEach_cons rfl]
  refine spliced_cons (name_eval hb X h1 fun B₁ v₁ e1 st1 r1 => spliced_cons (name_eval hb st1 h2 fun B₂ v₂ e2 st2 r2 => spliced_nil ?_))
  refine wpAny_newTuple ?_ (by unfold sizeLine; simp)
  obtain ⟨B', e3, Y, hB⟩ := st2.made (k := s.toks) (h' := s.heap.push { cls := .type "tuple", data := .seq #[v₁, v₂] }) (fun b o' q => Heap.get?_push_of_some _ q) (by simp) (Heap.get?_push_size _ rfl) (Nat.le_refl _)
  have r1 := r1.val_inv
  have r2 := r2.val_inv
  exact hQ B' _ _ ((e1.trans e2).trans e3) Y (.tup ⟨_, hB, rfl, _, rfl⟩ (.cons (r1.mono (e2.sub.trans e3.sub)) (.cons (r2.mono e3.sub) .nil)))
inductive TryR (g : Gl) (cx : Cx) (σ : S) (hs : List ExceptHandler) (oe fb : List Stmt) (q : Str × Str × Str) : Prop
  | mk (k : Nat) (p1 p2 p3 p4 p5 p6 : Pos) (h1 : hs = [.ExceptHandler (some (.Name q.1 p1)) none [.Return (some (.Tuple [.Name q.2.1 p2, .Name q.2.2 p3] k p4)) p5] p6]) (h2 : oe = []) (h3 : fb = [])
theorem try_r {hs : List ExceptHandler} {oe fb : List Stmt} {q : Str × Str × Str} (h : tryOf hs oe fb = some q) : TryR g cx σ hs oe fb q := by
  obtain ⟨h0, h⟩ := condn h
  obtain ⟨hd, g1, h⟩ := obind h
  obtain ⟨p, g2, h⟩ := obind h
  obtain ⟨c, g3, h⟩ := obind h
  obtain ⟨u, g4, h⟩ := obind h
  obtain ⟨es, g5, h⟩ := obind h
  obtain ⟨xy, g6, h⟩ := obind h
  obtain ⟨x, g7, h⟩ := obind h
  obtain ⟨y, g8, rfl⟩ := omap h
  have h0 := Bool.and_eq_true_iff.mp h0
  obtain ⟨t, n, b, p6⟩ := hd
  obtain ⟨k0, h⟩ := condn g2
  obtain ⟨t', k1, h⟩ := obind h
  obtain ⟨s', k2, rfl⟩ := omap h
  obtain ⟨p1, k3⟩ := nameE_inv g3
  obtain ⟨p2, k4⟩ := nameE_inv g7
  obtain ⟨p3, k5⟩ := nameE_inv g8
  obtain ⟨kk, p4, k6⟩ := tupE_inv g5
  obtain ⟨e5, p5, k7, k8⟩ : ∃ e p, s' = .Return (some e) p ∧ u = (e, p) := by
    rcases s' with ⟨⟩ <;> first | exact nos g4 | skip
    obtain ⟨e, z1, rfl⟩ := omap g4
    exact ⟨e, _, by rw [z1], rfl⟩
  have k9 : n = none := by rcases n with _ | _; rfl; exact ff_tt k0
  have k3 : t' = .Name c p1 := k3
  have k6 : e5 = .Tuple es kk p4 := by rw [k8] at k6; exact k6
  exact ⟨kk, p1, p2, p3, p4, p5, p6, by rw [one_inv g1, k1, k9, one_inv k2, k3, k7, k6, two_inv g6, k4, k5], isEmpty_inv h0.1, isEmpty_inv h0.2⟩
theorem stop_r {c : Str} (h : (((readRaw g cx σ c).bind valOf).bind bfOf?).any isStopB = true) : readRaw g cx σ c = some (.val (.bf .stop)) := by
  obtain ⟨b, h1, h2⟩ := oany h
  obtain ⟨v, h3, h4⟩ := obind h1
  obtain rfl := bfOf_inv h4
  rcases b with ⟨⟩ <;> first | exact raw_val h3 | exact ff_tt h2
theorem try_sound (hb : BaseOk W g B₀) (H : IhOk W g B₀ ih n) (hA : Room W A' n) (hT : Top W env) (X : Sta W B₀ B ρ env cx σ s) {body : List Stmt} {c x y : Str} {k : Nat} {p q r r' r'' pos pos' : Pos} {f : Fl}
    (hc : readRaw g cx σ c = some (.val (.bf .stop)))
    (h : (onX (ih.sts cx σ body) fun σ₁ => cond (isCellK (lkN cx.scope.names c) || isLocK (lkN cx.scope.names c)) .bad <| (readName g cx σ₁ x).bindV fun a σ₂ => (readName g cx σ₂ y).bindV fun b σ₃ => .ok (.ret (.tup [a, b])) σ₃) = .ok f σ') :
    wpAny (model W.prog W.w) A' (exec (.Try body [.ExceptHandler (some (.Name c r'')) none [.Return (some (.Tuple [.Name x p, .Name y q] k r)) r'] pos'] [] [] pos) env) (Good W B₀ env cx B ρ s σ' fun B' _ x => RF W B' f x) No s := by
  refine wpAny_Try_except ?_
  rcases h1 : ih.sts cx σ body with ⟨f₁, σ₁⟩ | σ₁ | _ <;> rw [h1] at h
  · obtain ⟨rfl, rfl⟩ := ok_inj h
    refine good_step (β := Flow) (H.sts _ _ _ _ _ h1 _ _ _ _ _ hA hT X) fun B₁ ρ₁ s₁ fl e1 st1 rf => ?_
    rcases fl with ⟨⟩
    · exact wpAny_execs_nil ⟨B₁, ρ₁, e1, st1, rf⟩
    all_goals exact ⟨B₁, ρ₁, e1, st1, rf⟩
  · obtain ⟨hk, h0⟩ := cond_bt h
    obtain ⟨a, σ₂, h2, h3⟩ := Out.bindV_ok h0
    obtain ⟨b, σ₃, h4, h5⟩ := Out.bindV_ok h3
    obtain ⟨rfl, rfl⟩ := ok_inj h5
    refine wpAny_mono (H.stsX _ _ _ _ h1 _ _ _ _ _ hA hT X) (fun _ _ f => f.elim) fun e s' hx => ?_
    refine hx.noted X hA.2.2.2 hT fun s₂ ea T B' ρ' he e2 st2 hc2 ho2 => ?_
    subst he
    refine Exc.flown e2 st2 X.Llt X.stk.all_lt hc2 ho2 fun s₃ e3 st3 hc3 ho3 => ?_
    refine wpAny_handleBy_builtin (X := "StopIteration") (T := "StopIteration") (b := true) stop_exc stop_nt isSubtype_stop ?_
    refine raw_load hb st3 (readRaw_glob hc hk) fun v hv _ _ => ?_
    obtain rfl := hv.val_inv.bf_inv
    refine ⟨rfl, ?_, ?_⟩
    · obtain ⟨oe, vs, oT, tv, he, hcl, _⟩ := hc3
      exact ⟨oe, he, hcl⟩
    · simp only [if_true]
      refine Exc.flown e3 st3 X.Llt X.stk.all_lt hc3 ho3 fun s₄ e4 st4 hc4 ho4 => ?_
      exact pair_ret hb st4 h2 h4 fun B'' v s₅ e5 st5 r5 => ⟨B'', ρ', e4.trans e5, st5, r5⟩
  · exact bad_ok h
theorem st_elim {P : Stmt → Prop} {st : Stmt} {o : Out Fl} (h : stStep g ih cx σ st = o) (hbad : ∀ st, o = .bad → P st)
    (h1 : ∀ e p, noX (exprStep g ih cx σ e) = o → P (.Expr e p)) (h2 : ∀ p, Out.ok .brk σ = o → P (.Break p)) (h3 : ∀ r p, (noX <| optB r fun e => (ih.ex cx σ e).bindV fun v σ₁ => .ok (.ret v) σ₁) = o → P (.Return r p))
    (h4 : ∀ ts e p, assignStep g ih cx σ ts e = o → P (.Assign ts e p)) (h5 : ∀ t op e p, augStep g ih cx σ t op e = o → P (.AugAssign t op e p))
    (h6 : ∀ ts p, (noX <| optB ((one ts).bind subE) fun oi => delGo g ih cx σ oi) = o → P (.Delete ts p))
    (h7 : ∀ t a b p, (noX <| (ih.tr cx σ t).bind fun c σ₁ => match c with | true => ih.sts cx σ₁ a | false => ih.sts cx σ₁ b) = o → P (.If t a b p))
    (h8 : ∀ t body orelse p, cond orelse.isEmpty (whileGo ih cx t body 100 σ) .bad = o → P (.While t body orelse p))
    (h9 : ∀ t it body orelse p, (noX <| (src g ih cx σ t it).bind fun xs σ₁ => forGo ih cx t body orelse σ₁ xs) = o → P (.For t it body orelse p))
    (h10 : ∀ t m p, (noX <| cond m.isNone ((ih.tr cx σ t).bind fun c σ₁ => cond c (.ok .nxt σ₁) .bad) .bad) = o → P (.Assert t m p))
    (h11 : ∀ body hs oe fb p, (optB (tryOf hs oe fb) fun q => tryGo g ih cx σ body q) = o → P (.Try body hs oe fb p)) : P st := by
  rcases st with ⟨⟩
  case Expr => exact h1 _ _ h
  case Break => exact h2 _ h
  case Return => exact h3 _ _ h
  case Assign => exact h4 _ _ _ h
  case AugAssign => exact h5 _ _ _ _ h
  case Delete => exact h6 _ _ h
  case If => exact h7 _ _ _ _ h
  case While => exact h8 _ _ _ _ h
  case For => exact h9 _ _ _ _ _ h
  case Assert => exact h10 _ _ _ h
  case Try => exact h11 _ _ _ _ _ h
  all_goals exact hbad _ h.symm
theorem stStep_sound (hb : BaseOk W g B₀) (H : IhOk W g B₀ ih n) (hA : Room W A' n) (hT : Top W env) (X : Sta W B₀ B ρ env cx σ s) {st : Stmt} {f : Fl} (h : stStep g ih cx σ st = .ok f σ') :
    wpAny (model W.prog W.w) A' (exec st env) (Good W B₀ env cx B ρ s σ' fun B' _ x => RF W B' f x) No s := by
  refine st_elim (P := fun st => wpAny (model W.prog W.w) A' (exec st env) (Good W B₀ env cx B ρ s σ' fun B' _ x => RF W B' f x) No s) h (fun _ h => bad_ok h.symm) (fun e p h => expr_sound hb H hA X (noX_ok h)) (fun p h => ?_) (fun r p h => ?_) (fun ts e p h => assign_stmt_sound hb H hA X h)
    (fun t op e p h => aug_sound hb H hA X h) (fun ts p h => ?_) (fun t a b p h => ?_) (fun t body orelse p h => ?_) (fun t it body orelse p h => ?_) (fun t m p h => ?_) (fun body hs oe fb p h => ?_)
  · obtain ⟨rfl, rfl⟩ := ok_inj h
    exact wpAny_Break ⟨B, ρ, Ext.refl .., X, trivial⟩
  · obtain ⟨e, rfl, h0⟩ := optB_ok (noX_ok h)
    obtain ⟨v, σ₁, h1, h2⟩ := Out.bindV_ok h0
    obtain ⟨rfl, rfl⟩ := ok_inj h2
    exact wpAny_Return_some (exV H h1 hA X fun B₁ ρ₁ s₁ x e1 st1 r1 => ⟨B₁, ρ₁, e1, st1, r1⟩)
  · obtain ⟨oi, g1, h0⟩ := optB_ok (noX_ok h)
    obtain ⟨q, hp, h1⟩ := optB_ok h0
    obtain ⟨iv, σ₁, h2, h3⟩ := Out.bindV_ok h1
    obtain ⟨m, hm, h4⟩ := optB_ok h3
    obtain ⟨m', hd, h5⟩ := optB_ok h4
    obtain ⟨rfl, rfl⟩ := ok_inj h5
    obtain ⟨t, g2, g3⟩ := obind g1
    obtain rfl := one_inv g2
    obtain ⟨p', rfl⟩ := subE_inv g3
    exact del_sound hb H hA X hp h2 (at_some hm) hd
  · obtain ⟨c, σ₁, h1, h2⟩ := Out.bind_ok (noX_ok h)
    refine wpAny_If (good_step (β := Bool) (H.tr _ _ _ _ _ h1 _ _ _ _ _ hA X) fun B₁ ρ₁ s₁ x e1 st1 hx => ?_)
    rw [hx]
    cases c with
    | true => exact wpAny_mono (H.sts _ _ _ _ _ h2 _ _ _ _ _ hA hT st1) (fun _ _ hg => hg.ext e1) fun _ _ f => f
    | false => exact wpAny_mono (H.sts _ _ _ _ _ h2 _ _ _ _ _ hA hT st1) (fun _ _ hg => hg.ext e1) fun _ _ f => f
  · obtain ⟨ho, h1⟩ := cond_tb h
    obtain rfl := isEmpty_inv ho
    exact wpAny_While (whileGo_sound H hA hT h1 X fun fl s' hg => hg)
  · obtain ⟨xs, σ₁, h1, h2⟩ := Out.bind_ok (noX_ok h)
    exact for_sound hb H hA hT X h1 h2
  · obtain ⟨hm, h1⟩ := cond_tb (noX_ok h)
    obtain ⟨c, σ₁, h2, h3⟩ := Out.bind_ok h1
    obtain ⟨rfl, h4⟩ := cond_tb h3
    obtain ⟨rfl, rfl⟩ := ok_inj h4
    obtain rfl : m = none := by rcases m with _ | _; rfl; exact ff_tt hm
    exact wpAny_Assert_holds (good_step (β := Bool) (H.tr _ _ _ _ _ h2 _ _ _ _ _ hA X) fun B₁ ρ₁ s₁ x e1 st1 hx => ⟨hx, B₁, ρ₁, e1, st1, trivial⟩)
  · obtain ⟨q, g1, h1⟩ := optB_ok h
    obtain ⟨hc, h2⟩ := cond_tb h1
    obtain ⟨k, p1, p2, p3, p4, p5, p6, rfl, rfl, rfl⟩ := try_r (g := g) (cx := cx) (σ := σ) g1
    exact try_sound hb H hA hT X (stop_r hc) h2
theorem rn_exc {x : Str} {P : Prop} (h : readName g cx σ x = .exc σ') : P := by
  obtain ⟨a, _, h1⟩ := optB_exc h
  rcases a with v | i
  · exact ok_exc h1
  · obtain ⟨m, _, h2⟩ := optB_exc h1
    rcases q : thaw m with _ | w <;> rw [q] at h2
    · obtain ⟨_, h3⟩ := cond_tx h2
      exact ok_exc h3
    · obtain ⟨_, _, h3⟩ := optB_exc h2
      exact ok_exc h3
theorem try_exc {body : List Stmt} {q : Str × Str × Str} {P : Prop} (h : tryGo g ih cx σ body q = .exc σ') : P := by
  obtain ⟨_, h1⟩ := cond_tx h
  rcases h2 : ih.sts cx σ body with ⟨f₁, σ₁⟩ | σ₁ | _ <;> rw [h2] at h1
  · exact ok_exc h1
  · obtain ⟨_, h3⟩ := cond_xt h1
    rcases Out.bindV_exc h3 with h4 | ⟨a, σ₂, h4, h5⟩
    · exact rn_exc h4
    · rcases Out.bindV_exc h5 with h6 | ⟨b, σ₃, h6, h7⟩
      · exact rn_exc h6
      · exact ok_exc h7
  · exact bad_exc h1
theorem stStep_exc (H : IhOk W g B₀ ih n) (hA : Room W A' n) (hT : Top W env) (X : Sta W B₀ B ρ env cx σ s) {st : Stmt} (h : stStep g ih cx σ st = .exc σ') :
    wpAny (model W.prog W.w) A' (exec st env) Nay (Exc W B₀ env cx B ρ s σ') s := by
  refine st_elim (P := fun st => wpAny (model W.prog W.w) A' (exec st env) Nay (Exc W B₀ env cx B ρ s σ') s) h (fun _ h => bad_exc h.symm) (fun e p h => noX_exc h) (fun p h => ok_exc h) (fun r p h => noX_exc h) (fun ts e p h => assign_exc H hA hT X h)
    (fun t op e p h => aug_exc H hA hT X h) (fun ts p h => noX_exc h) (fun t a b p h => noX_exc h) (fun t body orelse p h => ?_) (fun t it body orelse p h => noX_exc h) (fun t m p h => noX_exc h) (fun body hs oe fb p h => ?_)
  · obtain ⟨ho, h1⟩ := cond_tx h
    obtain rfl := isEmpty_inv ho
    exact while_stmt_exc H hA hT X h1
  · obtain ⟨q, g1, h1⟩ := optB_exc h
    exact try_exc h1
theorem stsStep_sound (hb : BaseOk W g B₀) (H : IhOk W g B₀ ih n) (hA : Room W A' n) (hT : Top W env) {ss : List Stmt} {σ : S} {B ρ s} {f : Fl} (h : stsStep g ih cx σ ss = .ok f σ') (X : Sta W B₀ B ρ env cx σ s) :
    wpAny (model W.prog W.w) A' (execs ss env) (Good W B₀ env cx B ρ s σ' fun B' _ x => RF W B' f x) No s := by
  induction ss generalizing σ B ρ s with
  | nil =>
    obtain ⟨rfl, rfl⟩ := ok_inj h
    exact wpAny_execs_nil ⟨B, ρ, Ext.refl .., X, trivial⟩
  | cons st r ih' =>
    obtain ⟨f₁, σ₁, h1, h2⟩ := Out.bind_ok h
    refine wpAny_execs_cons (good_step (β := Flow) (stStep_sound hb H hA hT X h1) fun B₁ ρ₁ s₁ fl e1 st1 rf => ?_)
    rcases rf_inv rf with ⟨rfl, rfl⟩ | ⟨rfl, rfl⟩ | ⟨rfl, rfl⟩ | ⟨v, x, rfl, rfl, rf⟩
    · exact wpAny_mono (ih' h2 st1) (fun _ _ hg => hg.ext e1) fun _ _ f => f
    all_goals
      obtain ⟨rfl, rfl⟩ := ok_inj h2
      exact ⟨B₁, ρ₁, e1, st1, rf⟩
theorem stsStep_exc (hb : BaseOk W g B₀) (H : IhOk W g B₀ ih n) (hA : Room W A' n) (hT : Top W env) {ss : List Stmt} {σ : S} {B ρ s} (h : stsStep g ih cx σ ss = .exc σ') (X : Sta W B₀ B ρ env cx σ s) :
    wpAny (model W.prog W.w) A' (execs ss env) Nay (Exc W B₀ env cx B ρ s σ') s := by
  induction ss generalizing σ B ρ s with
  | nil => exact ok_exc h
  | cons st r ih' =>
    rcases Out.bind_exc h with h1 | ⟨f₁, σ₁, h1, h2⟩
    · exact wpAny_execs_cons (wpAny_mono (stStep_exc H hA hT X h1) (fun _ _ f => f.elim) fun _ _ hx => hx)
    · refine wpAny_execs_cons (good_step (β := Flow) (stStep_sound hb H hA hT X h1) fun B₁ ρ₁ s₁ fl e1 st1 rf => ?_)
      rcases rf_inv rf with ⟨rfl, rfl⟩ | ⟨rfl, rfl⟩ | ⟨rfl, rfl⟩ | ⟨v, x, rfl, rfl, rf⟩
      · exact wpAny_mono (ih' h2 st1) (fun _ _ f => f.elim) fun _ _ hx => hx.ext e1
      all_goals exact ok_exc h2
end
end

section
open PySem PySem.Calls PyProof.Rows PySem.W
set_option backward.match.sparseCases false
set_option maxRecDepth 100000
set_option linter.unusedVariables false
noncomputable def Wd.on (W : Wd) (fs : List Env) : Wd := { W with fs := fs }
theorem RV.on {W : Wd} {B : Heap} (fs : List Env) {v x} (h : RV W B v x) : RV (W.on fs) B v x :=
  RV.rec (W := W) (motive_1 := fun v x _ => RV (W.on fs) B v x) (motive_2 := fun vs xs _ => RVs (W.on fs) B vs xs) .none .bool .int .str (fun a b c d _ e => .list a b c d e)
    (fun a _ c => .tup a c) (fun a b _ d e => .dictI a b e d) (fun a b _ d e => .dictS a b e d) (fun a => .range a) (fun a => .fn a) .bf .nil (fun _ _ a b => .cons a b) h
theorem RVs.on {W : Wd} {B : Heap} (fs : List Env) {v x} (h : RVs W B v x) : RVs (W.on fs) B v x := by
  induction v generalizing x with
  | nil => rw [h.nil_inv]; exact .nil
  | cons v vs ih =>
    obtain ⟨y, ys, rfl, h1, h2⟩ := h.cons_inv
    exact .cons (h1.on fs) (ih h2)
theorem RA.on {W : Wd} {B : Heap} {ρ : List Addr} (fs : List Env) {v x} (h : RA W B ρ v x) : RA (W.on fs) B ρ v x := by
  rcases v with v | i
  · exact .val (h.val_inv.on fs)
  · obtain ⟨_, rfl, h1⟩ := h.plc_inv
    exact .plc h1
theorem RM.on {W : Wd} {B : Heap} {ρ : List Addr} {h : Heap} {a : Addr} (fs : List Env) {m : M} (x : RM W B ρ h a m) : RM (W.on fs) B ρ h a m := by
  rcases m with ⟨⟩
  case lst xs => obtain ⟨i, h1, h2⟩ := x; exact ⟨i, h1, h2.on fs⟩
  case dct ks vs => obtain ⟨f, ws, n, h1, h2, h3, h4, h5, h6, h7, h8⟩ := x; exact ⟨f, ws, n, h1, h2, h3, h4, h5.on fs, h6, h7, h8⟩
  case itr xs => obtain ⟨ax, p, i, ys, h1, h2, h3, h4, h5⟩ := x; exact ⟨ax, p, i, ys, h1, h2, h3.on fs, h4, h5⟩
  case cell c =>
    rcases c with _ | c
    · exact x
    · obtain ⟨v, h1, h2⟩ := x; exact ⟨v, h1, h2.on fs⟩
theorem FnOk.on {W : Wd} {B₀ : Heap} {x : Str} {f : Fn} {a : Addr} {o : Obj} {fd : FuncData} (fs : List Env) (F : FnOk W B₀ x f a o fd) : FnOk (W.on fs) B₀ x f a o fd := ⟨F.1, F.2, F.3, F.4, F.5, F.6, F.7, F.8, F.9, F.10, F.11, F.12, F.13, F.14, F.15, F.16, F.17⟩
theorem BaseOk.on {W : Wd} {g : Gl} {B₀ : Heap} (fs : List Env) (h : BaseOk W g B₀) : BaseOk (W.on fs) g B₀ := by
  obtain ⟨h1, ⟨mg, mb, h2, h3, h4⟩, h5⟩ := h
  refine ⟨h1, ⟨mg, mb, h2, h3, fun x v q => ?_⟩, fun x f q => ?_⟩
  · obtain ⟨y, hy, hz⟩ := h4 x v q
    exact ⟨y, hy.on fs, hz⟩
  · obtain ⟨a, o, fd, F⟩ := h5 x f q
    exact ⟨a, o, fd, F.on fs⟩
structure InC (s₀ : Shared) (L : Addr) (m : Str → Option Value) (cs : List (Str × Addr)) (cm : Str → Option Value) (s : Shared) : Prop where
  c : InCallC s₀ L m cs cm s
  cls : ∃ o, s.heap.get? L = some o ∧ o.cls = .type "frame"
section
variable {M' : Model} {A : Around} {E : Value → Shared → Prop} {s₀ s : Shared} {m cm : Str → Option Value} {env : Env}
theorem stLX {n : Str} {v : Value} {Q : Unit → Shared → Prop} (x : InC s₀ env.locals m env.cells cm s) (hk : env.scope.kind = .function) (hl : env.kindOf n = some .local)
    (h : ∀ s', InC s₀ env.locals (fun y => if y = n then some v else m y) env.cells cm s' → Q () s') : wpAny M' A (storeName env n v) Q E s := by
  refine storeName_localC hl x.c.toInCall.ns (fun h' hn' hs' hc' => h _ ⟨⟨⟨?_, hn', fun b o e => ?_, x.c.toInCall.fresh⟩, fun k c hc => ?_, x.c.apart, x.c.above⟩, ?_⟩) (by rw [hk]; rfl)
  · obtain ⟨h₁, tk, rfl⟩ := x.c.toInCall.same
    exact ⟨h', _, rfl⟩
  · exact hs'.extBut b o (Nat.ne_of_lt (Nat.lt_of_lt_of_le (Heap.lt_size e) x.c.toInCall.fresh)) (x.c.toInCall.keep b o e)
  · exact (x.c.cell k c hc).sameBut hs' (Nat.ne_of_gt (x.c.above k c (mem_of_lookup hc)))
  · obtain ⟨o, ho, hcl⟩ := x.cls
    obtain ⟨o', h1, h2⟩ := hc' o ho
    exact ⟨o', h1, h2.trans hcl⟩
theorem stCX {n : Str} {c : Addr} {v : Value} {Q : Unit → Shared → Prop} (x : InC s₀ env.locals m env.cells cm s) (hk : env.scope.kind = .function) (hl : env.kindOf n = some .cell)
    (hc : env.cells.lookup n = some c)
    (h : ∀ s', InC s₀ env.locals m env.cells (fun y => if y = n then some v else cm y) s' → Q () s') : wpAny M' A (storeName env n v) Q E s := by
  have hLc := x.c.above n c (mem_of_lookup hc)
  refine wpAny_storeName_cell hk hl hc (x.c.cell n c hc) fun h' hc' hs' => h _ ⟨⟨⟨?_, x.c.toInCall.ns.sameBut hs' (Nat.ne_of_lt hLc), fun b o e => ?_, x.c.toInCall.fresh⟩, fun k c' hk' => ?_, x.c.apart, x.c.above⟩, ?_⟩
  · obtain ⟨h₁, tk, rfl⟩ := x.c.toInCall.same
    exact ⟨h', _, rfl⟩
  · exact hs'.extBut b o (Nat.ne_of_lt (Nat.lt_trans (Nat.lt_of_lt_of_le (Heap.lt_size e) x.c.toInCall.fresh) hLc)) (x.c.toInCall.keep b o e)
  · by_cases hkn : k = n
    · subst hkn
      rw [hc] at hk'; cases hk'
      simpa using hc'
    · rw [if_neg hkn]
      exact (x.c.cell k c' hk').sameBut hs' fun e => hkn (name_of_addr x.c.apart (mem_of_lookup hk') (e ▸ mem_of_lookup hc))
  · obtain ⟨o, ho, hcl⟩ := x.cls
    exact ⟨o, (hs'.2 _ (Nat.ne_of_lt hLc)).trans ho, hcl⟩
theorem bindParamsX (f : Str × Value → PUnit → Sem (ForInStep PUnit)) (hf : ∀ n v u, f (n, v) u = (do storeName env n v; pure (.yield ⟨⟩))) (hk : env.scope.kind = .function) :
    ∀ (binds : List (Str × Value)) (m cm : Str → Option Value) (s : Shared) (Q : PUnit → Shared → Prop), InC s₀ env.locals m env.cells cm s →
      (∀ x ∈ binds, env.kindOf x.1 = some .local ∨ (env.kindOf x.1 = some .cell ∧ (env.cells.lookup x.1).isSome = true)) →
      (∀ s', InC s₀ env.locals (bindL env.kindOf binds m) env.cells (bindC env.kindOf binds cm) s' → Q ⟨⟩ s') → wpAny M' A (forIn binds ⟨⟩ f) Q E s
  | [], m, cm, s, Q, x, _, h => by rw [List.forIn_nil]; exact wpAny_pure (h s x)
  | (n, v) :: r, m, cm, s, Q, x, hkind, h => by
    rw [List.forIn_cons, hf]
    have hr : ∀ y ∈ r, env.kindOf y.1 = some .local ∨ (env.kindOf y.1 = some .cell ∧ (env.cells.lookup y.1).isSome = true) := fun y hy => hkind y (List.mem_cons_of_mem _ hy)
    rcases hkind (n, v) List.mem_cons_self with hl | ⟨hl, hc⟩
    · refine wpAny_bind (wpAny_bind (stLX x hk hl fun s' x' => wpAny_pure (bindParamsX f hf hk r _ _ s' Q x' hr fun s'' x'' => h s'' ?_)))
      unfold bindL bindC; rw [if_pos hl, if_pos hl]; exact x''
    · obtain ⟨c, hc⟩ := Option.isSome_iff_exists.mp hc
      have hnl : ¬ env.kindOf n = some .local := by rw [hl]; decide
      refine wpAny_bind (wpAny_bind (stCX x hk hl hc fun s' x' => wpAny_pure (bindParamsX f hf hk r _ _ s' Q x' hr fun s'' x'' => h s'' ?_)))
      unfold bindL bindC; rw [if_neg hnl, if_neg hnl]; exact x''
theorem newEnvX {scope : Scope} {globals : Addr} {binds : List (Str × Value)} {qual : Str} {func : Option Addr} {code : Value} {builtins : Addr} {Q : Env → Shared → Prop}
    (hk : scope.kind = .function)
    (hkind : ∀ x ∈ binds, scope.names.lookup x.1 = some .local ∨ (scope.names.lookup x.1 = some .cell ∧ ((cellsFrom (s.heap.objs.size + 1) scope.names []).lookup x.1).isSome = true))
    (hQ : ∀ env, env = newEnv scope s.heap.objs.size globals (cellsFrom (s.heap.objs.size + 1) scope.names []) qual func code none builtins →
      ∀ s', InC s env.locals (bindL env.kindOf binds fun _ => none) env.cells (bindC env.kindOf binds fun _ => none) s' → Q env s') :
    wpAny M' A (newFunctionEnv scope globals [] binds qual func code none builtins) Q E s := by
  simp only [newFunctionEnv, Option.isSome_none, Bool.false_eq_true, if_false]
  refine wpAny_bind (wpAny_alloc ?_)
  refine wpAny_bind (wpAny_layCells _ (fun name kind cells => by cases hkc : kind == NameKind.cell <;> simp [hkc]) _ _ _ _ ?_)
  have ok := cellsFrom_ok scope.names (s.heap.push { cls := .type "frame", data := .dict #[] }) (s.heap.objs.size + 1) [] ⟨fun _ _ hm => (nomatch hm), List.Pairwise.nil⟩ (by rw [Heap.size_push]; exact Nat.le_refl _)
  rw [Heap.size_push] at ok
  rw [show ({ s with heap := s.heap.push { cls := .type "frame", data := .dict #[] } } : Shared).heap.objs.size = s.heap.objs.size + 1 from Heap.size_push ..]
  refine wpAny_bind (bindParamsX (s₀ := s) (env := newEnv scope s.heap.objs.size globals (cellsFrom (s.heap.objs.size + 1) scope.names []) qual func code none builtins)
    _ (fun _ _ _ => rfl) hk binds (fun _ => none) (fun _ => none) _ _
    ⟨⟨⟨⟨_, _, rfl⟩, (Heap.Ns.new s.heap (.type "frame")).keeps (pushCells_keeps _ _), fun b o e => pushCells_keeps _ _ b o (Heap.get?_push_of_some _ e), Nat.le_refl _⟩,
      fun n c hc => (ok.empty n c (mem_of_lookup hc)).1, ok.apart, fun n c hm => (ok.empty n c hm).2⟩, ⟨_, pushCells_keeps _ _ _ _ (Heap.get?_push_size _ rfl), rfl⟩⟩
    hkind fun s' x => wpAny_pure (hQ _ rfl s' x))
end
end

section
open PySem PySem.Calls PyProof.Rows PySem.W
set_option backward.match.sparseCases false
set_option maxRecDepth 100000
set_option linter.unusedVariables false
section
variable {W : Wd} {B : Heap} {ρ : List Addr} {kindOf : Str → Option NameKind}
theorem bindL_not {x : Str} : ∀ {ps : List Str} {xs : List Value} {m : Str → Option Value}, x ∉ ps → bindL kindOf (ps.zip xs) m x = m x
  | [], _, _, _ => by simp [bindL]
  | p :: ps, [], _, _ => by simp [bindL]
  | p :: ps, v :: xs, m, h => by
    simp only [List.mem_cons, not_or] at h
    simp only [List.zip_cons_cons, bindL]
    rw [bindL_not h.2]
    split
    · exact if_neg h.1
    · rfl
theorem bindC_not {x : Str} : ∀ {ps : List Str} {xs : List Value} {m : Str → Option Value}, x ∉ ps → bindC kindOf (ps.zip xs) m x = m x
  | [], _, _, _ => by simp [bindC]
  | p :: ps, [], _, _ => by simp [bindC]
  | p :: ps, v :: xs, m, h => by
    simp only [List.mem_cons, not_or] at h
    simp only [List.zip_cons_cons, bindC]
    rw [bindC_not h.2]
    split
    · rfl
    · exact if_neg h.1
theorem bindLoc_ok {scope : Scope} (hk : ∀ y, kindOf y = lkN scope.names y) {x : Str} {a : A} {ps : List Str} {xs : List Value} {as : List A} {m : Str → Option Value} (hr : RAs W B ρ as xs) (hn : ps.Nodup) (h : lkN (bindLoc scope ps as) x = some a) :
    ∃ v, bindL kindOf (ps.zip xs) m x = some v ∧ RA W B ρ a v := by
  induction ps generalizing xs as m with
  | nil => exact nos h
  | cons p ps ih =>
    rcases as with _ | ⟨b, as⟩
    · exact nos h
    obtain ⟨v, xs, rfl, ra, rs⟩ := hr.cons_inv
    obtain ⟨h1, h2⟩ := List.nodup_cons.mp hn
    simp only [List.zip_cons_cons, bindL]
    change lkN (cond (isLocK (lkN scope.names p)) ((p, b) :: bindLoc scope ps as) (bindLoc scope ps as)) x = some a at h
    rcases hl : isLocK (lkN scope.names p) with _ | _ <;> rw [hl] at h
    · rw [if_neg (fun e => by rw [← hk p, e] at hl; exact tt_ff hl)]
      exact ih rs h2 h
    · rw [if_pos ((hk p).trans (loc_of hl))]
      change cond (nEq x p) (some b) (lkN (bindLoc scope ps as) x) = some a at h
      rcases q : nEq x p with _ | _ <;> rw [q] at h
      · exact ih rs h2 h
      · obtain rfl := Option.some.inj h
        obtain rfl := nEq_iff.mp q
        exact ⟨v, by rw [bindL_not h1]; simp, ra⟩
theorem bindC_ok {x : Str} (hk : kindOf x ≠ some .local) {ps : List Str} {xs : List Value} {as : List A} {m : Str → Option Value} (hr : RAs W B ρ as xs) (hn : ps.Nodup) :
    match lkN (ps.zip as) x with
    | some a => ∃ v, bindC kindOf (ps.zip xs) m x = some v ∧ RA W B ρ a v
    | none => bindC kindOf (ps.zip xs) m x = m x := by
  induction ps generalizing xs as m with
  | nil => simp [lkN, bindC]
  | cons p ps ih =>
    rcases as with _ | ⟨b, as⟩
    · rw [hr.nil_inv]; simp [lkN, bindC]
    obtain ⟨v, xs, rfl, ra, rs⟩ := hr.cons_inv
    obtain ⟨h1, h2⟩ := List.nodup_cons.mp hn
    simp only [List.zip_cons_cons, bindC, lkN]
    rcases q : nEq x p with _ | _
    · have hne : x ≠ p := fun e => by rw [e, nEq_self] at q; exact tt_ff q
      rw [cond_false]
      have z := ih (m := if kindOf p = some .local then m else fun y => if y = p then some v else m y) rs h2
      rcases w : lkN (ps.zip as) x with _ | a <;> rw [w] at z
      · refine z.trans ?_
        split
        · rfl
        · exact if_neg hne
      · exact z
    · obtain rfl := nEq_iff.mp q
      rw [cond_true]
      exact ⟨v, by rw [bindC_not h1, if_neg hk]; simp, ra⟩
end
section
variable {W : Wd} {g : Gl} {B₀ B : Heap} {ρ : List Addr} {s s₁ : Shared} {A' : Around} {n : Nat} {ih : Ih} {mem : List (Option M)}
noncomputable def cellAddrs (f : Fn) (L : Nat) : List Addr := List.range' (L + 1) (cellNames f.scope.names).length
noncomputable def callCx (f : Fn) (k : Nat) : Cx := ⟨f.scope, (cellNames f.scope.names).zipIdx k⟩
noncomputable def callS (f : Fn) (mem : List (Option M)) (as : List A) : S := ⟨bindLoc f.scope f.params as, mem ++ bindCells f.scope f.params as⟩
theorem call_start {x : Str} {f : Fn} {a : Addr} {o : Obj} {fd : FuncData} {as : List A} {xs : List Value} (F : FnOk W B₀ x f a o fd) (c : CSta W B₀ B ρ mem s) (ra : RAs W B ρ as xs) (hl : f.params.length = as.length)
    (I : InC s (callEnvC fd s.heap.objs.size a).locals (bindL (callEnvC fd s.heap.objs.size a).kindOf (f.params.zip xs) fun _ => none) (callEnvC fd s.heap.objs.size a).cells (bindC (callEnvC fd s.heap.objs.size a).kindOf (f.params.zip xs) fun _ => none) s₁) (hz : s.heap.objs.size ≤ s₁.heap.objs.size) :
    Sta (W.on (callEnvC fd s.heap.objs.size a :: W.fs)) B₀ B (ρ ++ cellAddrs f s.heap.objs.size) (callEnvC fd s.heap.objs.size a) (callCx f mem.length) (callS f mem as) s₁ := by
  have hL : (callEnvC fd s.heap.objs.size a).locals = s.heap.objs.size := rfl
  have hkind : ∀ y, (callEnvC fd s.heap.objs.size a).kindOf y = lkN f.scope.names y := fun y => by
    rw [lkN_eq]; show fd.scope.names.lookup y = _; rw [F.scope]
  have keep : Sub s.heap s₁.heap := I.c.toInCall.keep
  have hcells : ∀ j y, (cellNames f.scope.names)[j]? = some y → (callEnvC fd s.heap.objs.size a).cells.lookup y = some (s.heap.objs.size + 1 + j) := fun j y hj => by
    show (cellsFrom (s.heap.objs.size + 1) fd.scope.names []).lookup y = _
    rw [F.scope]; exact cellsFrom_at F.cnodup hj
  have hca : ∀ j, j < (cellNames f.scope.names).length → (ρ ++ cellAddrs f s.heap.objs.size)[mem.length + j]? = some (s.heap.objs.size + 1 + j) := fun j hj => by
    rw [c.len, List.getElem?_append_right (by omega)]
    unfold cellAddrs
    rw [Nat.add_sub_cancel_left, List.getElem?_range' hj]
    simp
  have hB : ∀ b, s.heap.objs.size ≤ b → B.get? b = none := fun b hb => by
    cases q : B.get? b with
    | none => rfl
    | some o => exact absurd (Heap.lt_size (c.stays _ _ q)) (Nat.not_lt.mpr hb)
  have hmemc : ∀ b ∈ cellAddrs f s.heap.objs.size, s.heap.objs.size < b := fun b hb => by
    unfold cellAddrs at hb
    have := List.mem_range'_1.mp hb
    omega
  have ra' : RAs W B (ρ ++ cellAddrs f s.heap.objs.size) as xs := ra.mono (Sub.refl _) ⟨_, rfl⟩
  have hcell : ∀ j y, (cellNames f.scope.names)[j]? = some y → s₁.heap.IsCell (s.heap.objs.size + 1 + j) (bindC (callEnvC fd s.heap.objs.size a).kindOf (f.params.zip xs) (fun _ => none) y) := fun j y hj => I.c.cell y _ (hcells j y hj)
  refine ⟨c.stays.trans keep, c.base, ⟨F.scope, F.kind, F.globals, F.builtins, fun y i _ hi => ?_⟩, ⟨_, I.c.toInCall.ns, fun y b hy => ?_⟩, ⟨hB _ (Nat.le_refl _), fun hm => ?_⟩, ?_, ?_, fun b hb => ?_, fun i m hi => ?_, fun G hG => ?_, fun e he => ?_⟩
  · obtain ⟨j, rfl, hj⟩ := lkN_zip hi
    exact ⟨_, hcells j y hj, hca j (List.getElem?_eq_some_iff.mp hj).1⟩
  · obtain ⟨v, h1, h2⟩ := bindLoc_ok (m := fun _ => none) hkind ra' F.nodup hy
    exact ⟨v, h1, h2.on _⟩
  · have hm' : s.heap.objs.size ∈ ρ ++ cellAddrs f s.heap.objs.size := hm
    rcases List.mem_append.mp hm' with h | h
    · exact Nat.lt_irrefl _ (c.lt _ h)
    · exact Nat.lt_irrefl _ (hmemc _ h)
  · show (mem ++ bindCells f.scope f.params as).length = (ρ ++ cellAddrs f s.heap.objs.size).length
    unfold bindCells cellAddrs
    simp [c.len]
  · rw [List.nodup_append]
    refine ⟨c.nodup, ?_, fun b hb d hd e => ?_⟩
    · unfold cellAddrs
      exact List.nodup_range'
    · subst e
      exact absurd (c.lt _ hb) (Nat.not_lt.mpr (Nat.le_of_lt (hmemc _ hd)))
  · rcases List.mem_append.mp hb with h | h
    · exact Nat.lt_of_lt_of_le (c.lt _ h) hz
    · unfold cellAddrs at h
      obtain ⟨hb1, hb2⟩ := List.mem_range'_1.mp h
      obtain ⟨j, rfl⟩ := Nat.exists_eq_add_of_le hb1
      have hj' : j < (cellNames f.scope.names).length := Nat.lt_of_add_lt_add_left hb2
      have := hcell j _ (List.getElem?_eq_getElem hj')
      exact this.lt
  · have hi' : (mem ++ bindCells f.scope f.params as)[i]? = some (some m) := hi
    by_cases hlt : i < mem.length
    · rw [List.getElem?_append_left hlt] at hi'
      obtain ⟨b, h1, h2, h3⟩ := c.mem i m hi'
      exact ⟨b, by rw [List.getElem?_append_left (by rw [← c.len]; exact hlt)]; exact h1, h2, ((h3.mono (Sub.refl _) ⟨_, rfl⟩).at fun o e => keep _ _ e).on _⟩
    · rw [List.getElem?_append_right (by omega)] at hi'
      obtain ⟨j, rfl⟩ : ∃ j, i = mem.length + j := ⟨i - mem.length, by omega⟩
      rw [Nat.add_sub_cancel_left] at hi'
      unfold bindCells at hi'
      rw [List.getElem?_map] at hi'
      · obtain ⟨y, q, hi2⟩ := omap hi'
        obtain rfl := Option.some.inj hi2
        refine ⟨_, hca j (List.getElem?_eq_some_iff.mp q).1, hB _ (by omega), ?_⟩
        have hc1 := hcell j y q
        have hkc : (callEnvC fd s.heap.objs.size a).kindOf y ≠ some .local := by
          rw [hkind, lkN_eq, F.cnames y (List.mem_of_getElem? q)]; decide
        have z := bindC_ok (W := W) (B := B) (ρ := ρ ++ cellAddrs f s.heap.objs.size) hkc (m := fun _ => none) ra' F.nodup
        rcases w : lkN (f.params.zip as) y with _ | b <;> rw [w] at z
        · rw [z] at hc1; exact hc1
        · obtain ⟨v, z1, z2⟩ := z
          rw [z1] at hc1
          exact ⟨v, hc1, z2.on _⟩
  · have hG' : G = s.heap.objs.size := (Option.some.inj hG).symm
    subst hG'
    obtain ⟨o', h1, h2⟩ := I.cls
    exact ⟨Heap.lt_size h1, fun _ => ⟨o', h1, h2⟩⟩
  · rcases List.mem_cons.mp he with rfl | he
    · obtain ⟨o', h1, h2⟩ := I.cls
      obtain ⟨o'', es, ep, h3, h4, _⟩ := I.c.toInCall.ns
      obtain rfl := Option.some.inj (h1.symm.trans h3)
      refine ⟨by show fd.scope.kind ≠ .module; rw [F.scope, F.kind]; decide, _, o', rfl, h1, h2, ⟨es, ep, h4⟩, hB _ (Nat.le_refl _), fun hm => ?_⟩
      rcases List.mem_append.mp hm with h | h
      · exact Nat.lt_irrefl _ (c.lt _ h)
      · exact Nat.lt_irrefl _ (hmemc _ h)
    · obtain ⟨h0, G, o', h1, h2, h3, h4, h5, h6⟩ := c.stk e he
      refine ⟨h0, G, o', h1, keep _ _ h2, h3, h4, h5, fun hm => ?_⟩
      rcases List.mem_append.mp hm with h | h
      · exact h6 h
      · exact absurd (Heap.lt_size h2) (Nat.not_lt.mpr (Nat.le_of_lt (hmemc _ h)))
end
end

section
open PySem PySem.Calls PyProof.Rows PySem.W
set_option backward.match.sparseCases true
set_option maxRecDepth 100000
set_option linter.unusedVariables false
section
variable {W : Wd} {g : Gl} {B₀ B : Heap} {ρ : List Addr} {s s₁ : Shared} {A' : Around} {n : Nat} {ih : Ih} {mem : List (Option M)}
theorem call_back {env : Env} {cx : Cx} {B' : Heap} {t ρ'' : List Addr} {σ' : S} {s' : Shared} (c : CSta W B₀ B ρ mem s) (ht : ∀ b ∈ t, s.heap.objs.size < b) (keep : Sub s.heap s₁.heap) (hz : s.heap.objs.size ≤ s₁.heap.objs.size)
    (hr : s₁.gens = s.gens ∧ s₁.os = s.os) (hL : env.locals = s.heap.objs.size)
    (e : Ext env.locals B (ρ ++ t) s₁ B' ρ'' s') (Y : Sta (W.on (env :: W.fs)) B₀ B' ρ'' env cx σ' s') (hc : closed mem.length (σ'.mem.take mem.length) = true) :
    Ext s.heap.objs.size B ρ s B' ρ s' ∧ CSta W B₀ B' ρ (σ'.mem.take mem.length) s' := by
  have hpre : ∃ u, ρ'' = ρ ++ u := by
    obtain ⟨u, hu⟩ := e.pre
    exact ⟨t ++ u, by rw [hu, List.append_assoc]⟩
  rw [c.len] at hc ⊢
  obtain ⟨m1, m2⟩ := mem_back (W := W.on (env :: W.fs)) (ρ := ρ) hpre Y.len hc Y.mem
  refine ⟨⟨e.sub, fun a o h1 h2 => ?_, ⟨[], by simp, by simp⟩, fun b o h1 h2 h3 => ?_, Nat.le_trans hz e.size, ?_⟩, ⟨Y.stays, Y.base, m1, c.nodup, fun a ha => Nat.lt_of_lt_of_le (c.lt a ha) (Nat.le_trans hz e.size), fun i m hi => ?_, fun en he => ?_⟩⟩
  · rcases e.new a o h1 h2 with z | z
    · rcases List.mem_append.mp z with z | z
      · exact .inl z
      · exact .inr (Nat.le_of_lt (ht a z))
    · exact .inr (Nat.le_trans hz z)
  · refine e.keep b o (by rw [hL]; exact h1) (fun hm => ?_) (keep _ _ h3)
    rcases List.mem_append.mp hm with z | z
    · exact h2 z
    · exact Nat.lt_irrefl _ (Nat.lt_trans (Heap.lt_size h3) (ht b z))
  · exact ⟨e.rest.1.trans hr.1, e.rest.2.trans hr.2⟩
  · obtain ⟨a, h1, h2, h3⟩ := m2 i m hi
    exact ⟨a, h1, h2, h3.on W.fs⟩
  · obtain ⟨h0, G, o', h1, h2, h3, h4, h5, h6⟩ := Y.stk en (List.mem_cons_of_mem _ he)
    refine ⟨h0, G, o', h1, h2, h3, h4, h5, fun hm => h6 ?_⟩
    obtain ⟨u, hu⟩ := hpre
    rw [hu]; exact List.mem_append_left _ hm
theorem room_deeper {env : Env} (h : Room W A' (n + 1)) : Room (W.on (env :: W.fs)) (A'.deeper env) n := by
  obtain ⟨h1, h2, h3, h4⟩ := h
  refine ⟨h1, ?_, ?_, Around.frames_deeper h4⟩
  · show A'.depth + 1 + n < 900; omega
  · show A'.units + 3 + 10 * n < 9000; omega
inductive EndR {α : Type} (k : Nat) (f : Fl → Option α) (o : Out Fl) (a : α) (σ' : S) : Prop
  | mk (x : Fl) (σ : S) (h1 : o = .ok x σ) (h2 : f x = some a) (h3 : closed k (σ.mem.take k) = true) (h4 : σ' = ⟨[], σ.mem.take k⟩)
theorem ending_ok {α : Type} {k : Nat} {f : Fl → Option α} {o : Out Fl} {a : α} {σ' : S} (h : ending k f o = .ok a σ') : EndR k f o a σ' := by
  rcases o with ⟨x, σ⟩ | σ | _
  · obtain ⟨b, h1, h2⟩ := optB_ok h
    obtain ⟨h3, h4⟩ := cond_tb h2
    obtain ⟨rfl, rfl⟩ := ok_inj h4
    exact ⟨x, σ, rfl, h1, h3, rfl⟩
  · obtain ⟨_, h4⟩ : closed k (σ.mem.take k) = true ∧ (Out.exc ⟨[], σ.mem.take k⟩ : Out α) = .ok a σ' := cond_tb h
    exact exc_ok h4
  · exact bad_ok h
theorem ending_exc {α : Type} {k : Nat} {f : Fl → Option α} {o : Out Fl} {σ' : S} (h : ending k f o = .exc σ') : ∃ σ, o = .exc σ ∧ closed k (σ.mem.take k) = true ∧ σ' = ⟨[], σ.mem.take k⟩ := by
  rcases o with ⟨x, σ⟩ | σ | _
  · obtain ⟨b, h1, h2⟩ := optB_exc h
    obtain ⟨h3, h4⟩ := cond_tx h2
    exact ok_exc h4
  · obtain ⟨h3, h4⟩ : closed k (σ.mem.take k) = true ∧ (Out.exc ⟨[], σ.mem.take k⟩ : Out α) = .exc σ' := cond_tx h
    exact ⟨σ, rfl, h3, (exc_inj h4).symm⟩
  · exact bad_exc h
theorem cell_mem {names : List (Str × NameKind)} {x : Str} (h : names.lookup x = some .cell) : x ∈ cellNames names := by
  induction names with
  | nil => exact nos h
  | cons p r ih =>
    obtain ⟨y, k⟩ := p
    rw [List.lookup_cons] at h
    rcases q : x == y with _ | _ <;> rw [q] at h
    · have := ih h
      rcases k with ⟨⟩ <;> first | exact this | exact List.mem_cons_of_mem _ this
    · obtain rfl := Option.some.inj h
      rw [beq_iff_eq.mp q]; exact List.mem_cons_self ..
theorem call_body (hb : BaseOk W g B₀) {nm : Str} {f : Fn} {as : List A} {xs : List Value} {a : Addr} {R : Result → Shared → Prop} (hg : g.fns nm = some f) (ha : W.FA nm = some a) (hA : Room W A' (n + 1)) (c : CSta W B₀ B ρ mem s) (ra : RAs W B ρ as xs) (hl : f.params.length = as.length)
    (k : ∀ (env : Env) (s₁ : Shared) (t : List Addr), env.locals = s.heap.objs.size → env.frame = some env.locals → Sub s.heap s₁.heap → s.heap.objs.size ≤ s₁.heap.objs.size → (s₁.gens = s.gens ∧ s₁.os = s.os) → (∀ b ∈ t, s.heap.objs.size < b) →
      Sta (W.on (env :: W.fs)) B₀ B (ρ ++ t) env (callCx f mem.length) (callS f mem as) s₁ →
      wpAny (model W.prog W.w) (A'.deeper env) (execs f.body env) (fun fl s' => R (.ok (.ret (match fl with | .ret v => v | _ => .none))) s')
        (fun e s' => wpAny (model W.prog W.w) (A'.deeper env) (leaving env e) (fun _ s'' => R (.error e) s'') (fun e' s'' => R (.error e') s'') s') s₁) :
    codeAny (model W.prog W.w) A' (.call (.ref a) ⟨xs, []⟩) R s := by
  obtain ⟨a', o, fd, F⟩ := hb.fns nm f hg
  obtain rfl : a' = a := Option.some.inj (F.addr.symm.trans ha)
  have hlx : xs.length = f.params.length := by rw [← ra.length]; exact hl.symm
  have sub : Sub B₀ s.heap := c.base.trans c.stays
  have hz : ∀ {s₁ : Shared} {L m cs cm}, InC s L m cs cm s₁ → L = s.heap.objs.size → s.heap.objs.size ≤ s₁.heap.objs.size := fun I hL => by
    obtain ⟨o', h1, _⟩ := I.cls
    exact Nat.le_of_lt (hL ▸ Heap.lt_size h1)
  refine codeAny_call_function (by have := hA.2.1; show A'.depth < 1000; omega) (sub _ _ F.get) F.data (by rw [F.scope]; exact F.co) (by rw [F.scope]; exact F.gen) F.body (F.code.keeps sub) ?_
  rw [F.bind xs hlx, F.closure]
  refine wpAny_pure (newEnvX (by rw [F.scope]; exact F.kind) (fun x hx => ?_) fun env he s₁ I => ?_)
  · have hp : x.1 ∈ f.params := (List.of_mem_zip hx).1
    rw [F.scope]
    rcases F.kinds _ hp with h | h
    · exact .inl h
    · refine .inr ⟨h, ?_⟩
      obtain ⟨j, hj⟩ := List.getElem?_of_mem (cell_mem h)
      rw [cellsFrom_at F.cnodup hj]; rfl
  · have he' : env = callEnvC fd s.heap.objs.size a' := by rw [he]; rfl
    subst he'
    refine ⟨(hb.nolimit.keeps sub).keeps I.c.toInCall.keep, codeAny_func ?_⟩
    have hz1 := hz I rfl
    obtain ⟨h1, tk, hs1⟩ := I.c.toInCall.same
    exact k _ s₁ (cellAddrs f s.heap.objs.size) rfl rfl I.c.toInCall.keep hz1 (by rw [hs1]; exact ⟨rfl, rfl⟩) (fun b hb => by
      unfold cellAddrs at hb
      have := List.mem_range'_1.mp hb
      omega) (call_start F c ra hl I hz1)
theorem callStep_sound (hb : BaseOk W g B₀) (H : ∀ fs, IhOk (W.on fs) g B₀ ih n) {nm : Str} {as : List A} {v : V} {σ' : S} (h : callStep g ih mem nm as = .ok v σ') {xs : List Value} (hA : Room W A' (n + 1)) (c : CSta W B₀ B ρ mem s) (ra : RAs W B ρ as xs) {a : Addr} (ha : W.FA nm = some a) :
    codeAny (model W.prog W.w) A' (.call (.ref a) ⟨xs, []⟩) (CallR W B₀ B ρ s v σ'.mem) s := by
  obtain ⟨f, hg, h⟩ := optB_ok h
  obtain ⟨hl, h⟩ := cond_tb h
  obtain ⟨fl, σ₂, h1, h2, h3, rfl⟩ := ending_ok h
  · refine call_body hb hg ha hA c ra (Nat.eq_of_beq_eq_true hl) fun env s₁ t hL hF sub hz hr ht X => ?_
    have hT : Top (W.on (env :: W.fs)) env := ⟨hF, W.fs, rfl⟩
    refine good_step (W := W.on (env :: W.fs)) (β := Flow) ((H (env :: W.fs)).sts _ _ _ _ _ h1 _ _ _ _ _ (room_deeper hA) hT X) fun B' ρ'' s' x e Y rf => ?_
    obtain ⟨e2, c2⟩ := call_back c ht sub hz hr hL e Y h3
    refine ⟨_, B', rfl, e2, c2, ?_⟩
    rcases rf_inv rf with ⟨rfl, rfl⟩ | ⟨rfl, rfl⟩ | ⟨rfl, rfl⟩ | ⟨w, x, rfl, rfl, rf⟩
    · exact Option.some.inj h2 ▸ .none
    · exact nos h2
    · exact nos h2
    · exact Option.some.inj h2 ▸ rf.on W.fs
theorem callStep_exc (hb : BaseOk W g B₀) (H : ∀ fs, IhOk (W.on fs) g B₀ ih n) {nm : Str} {as : List A} {σ' : S} (h : callStep g ih mem nm as = .exc σ') {xs : List Value} (hA : Room W A' (n + 1)) (c : CSta W B₀ B ρ mem s) (ra : RAs W B ρ as xs) {a : Addr} (ha : W.FA nm = some a) :
    codeAny (model W.prog W.w) A' (.call (.ref a) ⟨xs, []⟩) (CallX W B₀ B ρ s σ'.mem) s := by
  obtain ⟨f, hg, h⟩ := optB_exc h
  obtain ⟨hl, h⟩ := cond_tx h
  obtain ⟨σ₂, h1, h3, rfl⟩ := ending_exc h
  · refine call_body hb hg ha hA c ra (Nat.eq_of_beq_eq_true hl) fun env s₁ t hL hF sub hz hr ht X => ?_
    have hT : Top (W.on (env :: W.fs)) env := ⟨hF, W.fs, rfl⟩
    refine wpAny_mono ((H (env :: W.fs)).stsX _ _ _ _ h1 _ _ _ _ _ (room_deeper hA) hT X) (fun _ _ f => f.elim) fun e s' hx => ?_
    unfold leaving
    refine wpAny_bind (hx.noted (W := W.on (env :: W.fs)) X (room_deeper (W := W) hA).2.2.2 hT fun s₂ ea T B' ρ'' he e2 st2 hc2 ho2 => ?_)
    subst he
    refine Exc.flown (W := W.on (env :: W.fs)) e2 st2 X.Llt X.stk.all_lt hc2 ho2 fun s₃ e3 st3 hc3 ho3 => ?_
    obtain ⟨e4, c4⟩ := call_back c ht sub hz hr hL e3 st3 h3
    refine ⟨ea, some T, B', rfl, e4, c4, hc3, fun b hb => ?_⟩
    obtain ⟨k1, k2, k3, k4⟩ := ho3 b hb
    refine ⟨k1, fun hm => k2 ?_, Nat.le_trans hz k3, k4⟩
    obtain ⟨u, hu⟩ := e3.pre
    rw [hu]; exact List.mem_append_left _ (List.mem_append_left _ hm)
theorem ihBad_ok : IhOk W g B₀ ihBad n :=
  ⟨fun _ _ _ _ _ h => bad_ok h, fun _ _ _ _ _ h => bad_ok h, fun _ _ _ _ _ h => bad_ok h, fun _ _ _ _ _ h => bad_ok h, fun _ _ _ _ h => bad_exc h, fun _ _ _ _ h => bad_exc h, fun _ _ _ _ h => bad_exc h⟩
theorem Room.less (h : Room W A' (n + 1)) : Room W A' n := ⟨h.1, by have := h.2.1; omega, by have := h.2.2.1; omega, h.2.2.2⟩
theorem ihStep_ok (hb : BaseOk W g B₀) (H : ∀ fs, IhOk (W.on fs) g B₀ ih n) : ∀ fs, IhOk (W.on fs) g B₀ (ihStep g ih) (n + 1) := fun fs => by
  have hb' := hb.on fs
  have H' : ∀ fs', IhOk ((W.on fs).on fs') g B₀ ih n := fun fs' => H fs'
  exact ⟨fun cx σ e a σ' h A env B ρ s hA X => exStep_sound hb' (H fs) hA.less X h,
    fun cx σ e b σ' h A env B ρ s hA X => trStep_sound hb' (H fs) hA.less X h,
    fun cx σ ss f σ' h A env B ρ s hA hT X => stsStep_sound hb' (H fs) hA.less hT h X,
    fun mem nm as v σ' h A B ρ s xs hA c ra a ha => callStep_sound hb' H' h hA c ra ha,
    fun cx σ e σ' h A env B ρ s hA hT X => exStep_exc hb' (H fs) hA.less hT X h,
    fun cx σ ss σ' h A env B ρ s hA hT X => stsStep_exc hb' (H fs) hA.less hT h X,
    fun mem nm as σ' h A B ρ s xs hA c ra a ha => callStep_exc hb' H' h hA c ra ha⟩
theorem run_ok (hb : BaseOk W g B₀) : ∀ n fs, IhOk (W.on fs) g B₀ (run g n) n
  | 0, _ => ihBad_ok
  | n + 1, fs => ihStep_ok hb (fun fs' => run_ok hb n fs') fs
end
end

section
open PySem PySem.Calls PyProof.Rows
set_option maxRecDepth 100000
set_option backward.match.sparseCases false
noncomputable abbrev argsOf (l : List Arg) : Arguments := { posonlyargs := [], args := l, vararg := none, kwonlyargs := [], kw_defaults := [], kwarg := none, defaults := [] }
theorem lk_self {x : Str} {v : Value} {l : List (Str × Value)} : List.lookup x ((x, v) :: l) = some v := by simp
theorem lk_off {x y : Str} {v : Value} {l : List (Str × Value)} (h : x ≠ y) : List.lookup x ((y, v) :: l) = List.lookup x l := by
  have : (x == y) = false := by simpa using h
  simp [List.lookup, this]
theorem found {l : List Str} {S : List (Str × Value)} (h : ∀ x ∈ l, ∃ v, List.lookup x S = some v) : (!(List.filter (fun n => (List.lookup n S).isNone) l).isEmpty) ≠ true := by
  have : List.filter (fun n => (List.lookup n S).isNone) l = [] := List.filter_eq_nil_iff.mpr fun x hx => by obtain ⟨v, e⟩ := h x hx; simp [e]
  rw [this]; decide
theorem bind1 (name : Str) (a : Arg) (body : List Stmt) (scope : Scope) (pm code doc : Value) (v : Value) :
    bindArgs (docDef name (argsOf [a]) body scope pm code doc) ⟨[v], []⟩ = pure [(a.arg, v)] := by
  refine Eq.trans (b := if (!(List.filter (fun n => (List.lookup n [(a.arg, v)]).isNone) [a.arg]).isEmpty) = true then _ else pure (List.filterMap (fun n => (List.lookup n [(a.arg, v)]).map (n, ·)) [a.arg])) rfl ?_
  rw [if_neg (found (by simp [lk_self]))]
  simp only [List.filterMap_cons, List.filterMap_nil, lk_self, Option.map_some]
theorem bind2 (name : Str) (a b : Arg) (body : List Stmt) (scope : Scope) (pm code doc : Value) (v u : Value) (h : b.arg ≠ a.arg) :
    bindArgs (docDef name (argsOf [a, b]) body scope pm code doc) ⟨[v, u], []⟩ = pure [(a.arg, v), (b.arg, u)] := by
  refine Eq.trans (b := if (!(List.filter (fun n => (List.lookup n [(a.arg, v), (b.arg, u)]).isNone) [a.arg, b.arg]).isEmpty) = true then _ else pure (List.filterMap (fun n => (List.lookup n [(a.arg, v), (b.arg, u)]).map (n, ·)) [a.arg, b.arg])) rfl ?_
  rw [if_neg (found (by simp [lk_self, lk_off h]))]
  simp only [List.filterMap_cons, List.filterMap_nil, lk_self, lk_off h, Option.map_some]
theorem bind3 (name : Str) (a b c : Arg) (body : List Stmt) (scope : Scope) (pm code doc : Value) (v u w : Value) (h : b.arg ≠ a.arg) (h2 : c.arg ≠ a.arg) (h3 : c.arg ≠ b.arg) :
    bindArgs (docDef name (argsOf [a, b, c]) body scope pm code doc) ⟨[v, u, w], []⟩ = pure [(a.arg, v), (b.arg, u), (c.arg, w)] := by
  refine Eq.trans (b := if (!(List.filter (fun n => (List.lookup n [(a.arg, v), (b.arg, u), (c.arg, w)]).isNone) [a.arg, b.arg, c.arg]).isEmpty) = true then _ else pure (List.filterMap (fun n => (List.lookup n [(a.arg, v), (b.arg, u), (c.arg, w)]).map (n, ·)) [a.arg, b.arg, c.arg])) rfl ?_
  rw [if_neg (found (by simp [lk_self, lk_off h, lk_off h2, lk_off h3]))]
  simp only [List.filterMap_cons, List.filterMap_nil, lk_self, lk_off h, lk_off h2, lk_off h3, Option.map_some]
end

section
open PySem
set_option backward.match.sparseCases false
noncomputable def paramsOf (a : Arguments) : List Str := a.args.map (·.arg)
noncomputable def constV (env : Str → Option V) : Expr → Option V
  | .Constant (.int i) _ _ => some (.int i)
  | .Constant (.str s) _ _ => some (.str s)
  | .Name x _ => env x
  | _ => none
noncomputable def allSome {α : Type} : List (Option α) → Option (List α)
  | [] => some []
  | some a :: r => (allSome r).map (a :: ·)
  | none :: _ => none
noncomputable def firstStr : List V → Bool
  | .str _ :: _ => true
  | _ => false
noncomputable def dictV (env : Str → Option V) : Expr → Option V
  | .Dict ks vs _ => match allSome (ks.map fun k => k.bind (constV env)), allSome (vs.map (constV env)) with
    | some a, some b => some (.dict (firstStr a) a b)
    | _, _ => none
  | e => constV env e
noncomputable def topV : List Stmt → List (Str × V) → List (Str × V)
  | [], acc => acc
  | .Assign [.Name x _] e _ :: r, acc => match dictV (lkN acc) e with
    | some v => topV r (putN acc x v)
    | none => topV r acc
  | _ :: r, acc => topV r acc
noncomputable def fnsL : List Stmt → List (Str × Fn)
  | [] => []
  | .FunctionDef n a b _ _ _ sc _ _ _ :: r => (n, ⟨paramsOf a, b, sc⟩) :: fnsL r
  | _ :: r => fnsL r
noncomputable def pickN {α : Type} (l : List (Str × α)) : List Str → List (Str × α)
  | [] => []
  | x :: r => match lkN l x with
    | some a => (x, a) :: pickN l r
    | none => pickN l r
noncomputable def glWith (body : List Stmt) (cs : List Str) (bs : List (Str × Bf)) : Gl :=
  ⟨lkN (pickN (topV body []) cs ++ ((fnsL body).map fun p => (p.1, V.fn p.1)) ++ bs.map fun p => (p.1, V.bf p.2)), lkN (fnsL body)⟩
end

section
open PySem PySem.Calls PyProof.Rows PySem.W
set_option backward.match.sparseCases false
set_option maxRecDepth 100000
set_option linter.unusedVariables false
noncomputable def distinct : List Str → Bool
  | [] => true
  | x :: r => (r.all fun y => !nEq x y) && distinct r
theorem distinct_nodup : ∀ {l : List Str}, distinct l = true → l.Nodup
  | [], _ => List.nodup_nil
  | x :: r, h => by
    simp only [distinct, Bool.and_eq_true, List.all_eq_true] at h
    refine List.nodup_cons.mpr ⟨fun hm => ?_, distinct_nodup h.2⟩
    have := h.1 x hm
    rw [nEq_self] at this; cases this
noncomputable def plainPs (a : Arguments) : Bool := a.posonlyargs.isEmpty && a.vararg.isNone && a.kwonlyargs.isEmpty && a.kw_defaults.isEmpty && a.kwarg.isNone && a.defaults.isEmpty && Nat.ble 1 a.args.length && Nat.ble a.args.length 3
noncomputable def recOk (d : DefRec) : Bool := plainPs d.params && isFunK d.scope.kind && !d.scope.isCoroutine && !d.scope.isGenerator && distinct (paramsOf d.params) &&
  (paramsOf d.params).all (fun p => isLocK (lkN d.scope.names p) || isCellK (lkN d.scope.names p)) && distinct (cellNames d.scope.names) && (cellNames d.scope.names).all (fun c => isCellK (lkN d.scope.names c))
theorem isLocK_eq {k : Option NameKind} (h : isLocK k = true) : k = some .local := by
  cases k with
  | none => cases h
  | some k => cases k <;> first | rfl | cases h
theorem isCellK_eq {k : Option NameKind} (h : isCellK k = true) : k = some .cell := by
  cases k with
  | none => cases h
  | some k => cases k <;> first | rfl | cases h
theorem len_sc {α : Type} {n : Nat} : ∀ {l : List α}, l.length = n + 1 → ∃ a r, l = a :: r ∧ r.length = n
  | a :: r, h => ⟨a, r, rfl, Nat.succ.inj h⟩
theorem bind_plain {a : Arguments} (h : plainPs a = true) (hn : (paramsOf a).Nodup) (name : Str) (body : List Stmt) (scope : Scope) (pm code doc : Value) (vs : List Value) (hl : vs.length = (paramsOf a).length) :
    bindArgs (docDef name a body scope pm code doc) ⟨vs, []⟩ = pure ((paramsOf a).zip vs) := by
  obtain ⟨po, as, va, ko, kd, kw, df⟩ := a
  simp only [plainPs, Bool.and_eq_true, List.isEmpty_iff, Option.isNone_iff_eq_none] at h
  obtain ⟨⟨⟨⟨⟨⟨⟨rfl, rfl⟩, rfl⟩, rfl⟩, rfl⟩, rfl⟩, h1⟩, h2⟩ := h
  simp only [paramsOf, List.length_map] at hl hn ⊢
  rcases as with _ | ⟨a, _ | ⟨b, _ | ⟨c, _ | ⟨d, r⟩⟩⟩⟩
  · cases h1
  · obtain ⟨v, rfl⟩ := List.length_eq_one_iff.mp hl
    exact bind1 ..
  · obtain ⟨v, r, rfl, e1⟩ := len_sc hl
    obtain ⟨u, rfl⟩ := List.length_eq_one_iff.mp e1
    have hn : [a.arg, b.arg].Nodup := hn
    exact bind2 _ _ _ _ _ _ _ _ _ _ (fun e => (List.nodup_cons.mp hn).1 (e ▸ .head _))
  · obtain ⟨v, r, rfl, e1⟩ := len_sc hl
    obtain ⟨u, r, rfl, e2⟩ := len_sc e1
    obtain ⟨w, rfl⟩ := List.length_eq_one_iff.mp e2
    have hn : [a.arg, b.arg, c.arg].Nodup := hn
    have n2 := (List.nodup_cons.mp hn).1
    exact bind3 _ _ _ _ _ _ _ _ _ _ _ _ (fun e => n2 (e ▸ .head _)) (fun e => n2 (e ▸ .tail _ (.head _))) (fun e => (List.nodup_cons.mp (List.nodup_cons.mp hn).2).1 (e ▸ .head _))
  · cases h2
theorem fnOk_of {p : Program} {loose : List Str} {mean : ExcName → Option Value} {mg mb : Str → Option Value} {h : Heap} {W : Wd} (T : PyProof.Rows.Top p loose mean mg mb h) (hFA : ∀ x a, mg x = some (.ref a) → W.FA x = some a)
    {d : DefRec} (hd : d ∈ recsOf p) (ok : recOk d = true) : ∃ a o fd, FnOk W h d.name ⟨paramsOf d.params, d.body, d.scope⟩ a o fd := by
  obtain ⟨a, o, pm, code, doc, h1, h2, h3, h4⟩ := T.fn d hd
  simp only [recOk, Bool.and_eq_true, List.all_eq_true, Bool.or_eq_true] at ok
  obtain ⟨⟨⟨⟨⟨⟨⟨k1, k2⟩, k3⟩, k4⟩, k5⟩, k6⟩, k7⟩, k8⟩ := ok
  have n5 := distinct_nodup k5
  refine ⟨a, o, _, hFA _ _ h1, h2, h3, rfl, rfl, ?_, by simpa using k3, by simpa using k4, rfl, rfl, rfl, h4, fun vs hl => bind_plain k1 n5 _ _ _ _ _ _ _ hl, fun q hq => ?_, n5, distinct_nodup k7, fun c hc => ?_⟩
  · show d.scope.kind = .function
    cases q : d.scope.kind <;> rw [q] at k2 <;> first | rfl | cases k2
  · rcases k6 q hq with z | z
    · exact .inl (by rw [← lkN_eq]; exact isLocK_eq z)
    · exact .inr (by rw [← lkN_eq]; exact isCellK_eq z)
  · rw [← lkN_eq]; exact isCellK_eq (k8 c hc)
end

section
open PySem PySem.Calls PyProof.Rows PySem.W
set_option backward.match.sparseCases false
set_option maxRecDepth 100000
set_option linter.unusedVariables false
theorem ns_at {h : Heap} {a : Addr} {m : Str → Option Value} {o : Obj} {es : Array DictEntry} {ep : Nat} (hn : h.Ns a m) (ho : h.get? a = some o) (hd : o.data = .dict es ep) (x : Str) : m x = nsFind es x := by
  obtain ⟨o', es', ep', ho', hd', _, hf⟩ := hn
  rw [ho] at ho'; cases ho'
  rw [hd] at hd'; cases hd'
  exact (hf x).symm
end

section
open PySem PySem.Calls PyProof.Rows PySem.W
set_option backward.match.sparseCases false
set_option maxRecDepth 100000
set_option linter.unusedVariables false
noncomputable def keyV : Value → V
  | .str x _ => .str x
  | .int i _ => .int i
  | _ => .none
noncomputable def simple : Value → Bool
  | .str .. => true
  | .int .. => true
  | _ => false
noncomputable def isS : Value → Bool
  | .str .. => true
  | _ => false
noncomputable def isI : Value → Bool
  | .int .. => true
  | _ => false
theorem rv_simple {W : Wd} {h : Heap} {v : Value} (e : simple v = true) : RV W h (keyV v) v := by
  cases v <;> first | exact .str | exact .int | cases e
theorem rvs_simple {W : Wd} {h : Heap} : ∀ {l : List Value}, l.all simple = true → RVs W h (l.map keyV) l
  | [], _ => .nil
  | v :: l, e => by
    simp only [List.all_cons, Bool.and_eq_true] at e
    exact .cons (rv_simple e.1) (rvs_simple e.2)
theorem find_str (k : Str) : ∀ l : List DictEntry, l.all (fun e => isS e.key) = true → (l.find? fun e => Value.isStrOf k e.key).map (·.val) = lkW (l.map fun e => keyV e.key) (l.map (·.val)) (.str k)
  | [], _ => rfl
  | e :: l, h => by
    simp only [List.all_cons, Bool.and_eq_true] at h
    obtain ⟨hs, ky, vl⟩ := e
    cases ky <;> first | cases h.1 | skip
    rename_i y t
    show (List.find? _ (_ :: l)).map _ = cond (nEq k y) (some vl) (lkW (l.map fun e => keyV e.key) (l.map (·.val)) (.str k))
    rw [List.find?_cons]
    cases q : nEq k y with
    | true =>
      have := nEq_iff.mp q
      subst this
      simp [Value.isStrOf]
    | false =>
      have : Value.isStrOf k (.str y t) = false := by
        cases r : Value.isStrOf k (.str y t) with
        | false => rfl
        | true => rw [Value.isStrOf, beq_iff_eq] at r; subst r; rw [nEq_self] at q; cases q
      rw [this]
      exact find_str k l h.2
theorem find_int (k : Int) : ∀ l : List DictEntry, l.all (fun e => isI e.key) = true → (l.find? fun e => Value.isInt k e.key).map (·.val) = lkW (l.map fun e => keyV e.key) (l.map (·.val)) (.int k)
  | [], _ => rfl
  | e :: l, h => by
    simp only [List.all_cons, Bool.and_eq_true] at h
    obtain ⟨hs, ky, vl⟩ := e
    cases ky <;> first | cases h.1 | skip
    rename_i y t
    show (List.find? _ (_ :: l)).map _ = cond (decide (k = y)) (some vl) (lkW (l.map fun e => keyV e.key) (l.map (·.val)) (.int k))
    rw [List.find?_cons]
    by_cases q : k = y
    · subst q
      simp [Value.isInt]
    · have : Value.isInt k (.int y t) = false := by
        simp only [Value.isInt]
        exact beq_false_of_ne fun e => q e.symm
      rw [this, decide_eq_false q]
      exact find_int k l h.2
section
variable {W : Wd} {h : Heap} {K : Frag} {a : Addr} {es : Array DictEntry} {n : Nat}
theorem rv_dictS (X : K.In h) (hl : K.lookup a = some ⟨.type "dict", none, .dict es n, #[]⟩) (hk : KeysLit W.w.params es.toList) (ha : a ≠ sysModules) (hs : es.toList.all (fun e => isS e.key) = true) (hv : (es.toList.map (·.val)).all simple = true) :
    RV W h (.dict true (es.toList.map fun e => keyV e.key) ((es.toList.map (·.val)).map keyV)) (.ref a) :=
  .dictS (mapOf_K X hl hk) ha (rvs_simple hv) fun k => by
    obtain ⟨l⟩ := es
    unfold findBy
    rw [List.find?_toArray]
    exact find_str k l hs
theorem mapOf_KI {prog : Program} {w : World} (X : K.In h) (hl : K.lookup a = some ⟨.type "dict", none, .dict es n, #[]⟩) (hk : es.toList.all (fun e => match e.key with | .int i _ => decide (e.hash = hashInt i) | _ => false) = true) :
    h.MapOf (intKind prog w) a (fun k => findBy Value.isInt es k) :=
  ⟨_, es, n, X _ _ hl, ⟨rfl, rfl, rfl⟩, rfl, fun e he => by
    have := List.all_eq_true.mp hk e (Array.mem_toList_iff.mpr he)
    obtain ⟨hs, ky, vl⟩ := e
    cases ky <;> first | cases this | skip
    rename_i i t
    exact ⟨i, by simp [intKind, Value.isInt], of_decide_eq_true this⟩, fun _ => rfl⟩
theorem rv_dictI (X : K.In h) (hl : K.lookup a = some ⟨.type "dict", none, .dict es n, #[]⟩) (hk : es.toList.all (fun e => match e.key with | .int i _ => decide (e.hash = hashInt i) | _ => false) = true) (ha : a ≠ sysModules)
    (hs : es.toList.all (fun e => isI e.key) = true) (hv : (es.toList.map (·.val)).all simple = true) :
    RV W h (.dict false (es.toList.map fun e => keyV e.key) ((es.toList.map (·.val)).map keyV)) (.ref a) :=
  .dictI (mapOf_KI X hl hk) ha (rvs_simple hv) fun k => by
    obtain ⟨l⟩ := es
    unfold findBy
    rw [List.find?_toArray]
    exact find_int k l hs
end
theorem pickN_mem {α : Type} {l : List (Str × α)} {p : Str × α} : ∀ {xs : List Str}, p ∈ pickN l xs → p.1 ∈ xs ∧ lkN l p.1 = some p.2
  | [], h => by cases h
  | x :: r, h => by
    unfold pickN at h
    split at h
    · rename_i a ha
      rcases List.mem_cons.mp h with rfl | h
      · exact ⟨List.mem_cons_self .., ha⟩
      · exact ⟨List.mem_cons_of_mem _ (pickN_mem h).1, (pickN_mem h).2⟩
    · exact ⟨List.mem_cons_of_mem _ (pickN_mem h).1, (pickN_mem h).2⟩
theorem lkN_mem {α : Type} {x : Str} {a : α} : ∀ {l : List (Str × α)}, lkN l x = some a → (x, a) ∈ l
  | [], h => by cases h
  | p :: r, h => by
    simp only [lkN] at h
    cases q : nEq x p.1 with
    | true => rw [q] at h; cases h; rw [nEq_iff.mp q]; exact List.mem_cons_self ..
    | false => rw [q] at h; exact List.mem_cons_of_mem _ (lkN_mem h)
noncomputable def faOf (mg : Str → Option Value) (x : Str) : Option Addr := match mg x with
  | some (.ref a) => some a
  | _ => none
theorem faOf_of {mg : Str → Option Value} {x : Str} {a : Addr} (h : mg x = some (.ref a)) : faOf mg x = some a := by unfold faOf; rw [h]
noncomputable def wd0 (p : Program) (w : World) (mg : Str → Option Value) : Wd := ⟨p, w, faOf mg, []⟩
theorem base_ok {prog view : Program} {w : World} {loose : List Str} {mean : ExcName → Option Value} {mg mb : Str → Option Value} {h : Heap} {body : List Stmt} {cs : List Str} {bs : List (Str × Bf)} (T : PyProof.Rows.Top view loose mean mg mb h)
    (hf : (recsOf view).map (fun d => (d.name, (⟨paramsOf d.params, d.body, d.scope⟩ : Fn))) = fnsL body) (hr : (recsOf view).all recOk = true)
    (hc : ∀ x ∈ cs, ∃ v y, lkN (topV body []) x = some v ∧ RV (wd0 prog w mg) h v y ∧ mg x = some y)
    (hb : ∀ p ∈ bs, mg p.1 = none ∧ bootBuiltins p.1 = some (bfVal p.2) ∧ p.1 ≠ "__name__") : BaseOk (wd0 prog w mg) (glWith body cs bs) h := by
  have fn : ∀ x f, (x, f) ∈ fnsL body → ∃ a o fd, FnOk (wd0 prog w mg) h x f a o fd := fun x f hm => by
    rw [← hf] at hm
    obtain ⟨d, hd, e⟩ := List.mem_map.mp hm
    cases e
    exact fnOk_of T (fun x a e => faOf_of e) hd (List.all_eq_true.mp hr d hd)
  refine ⟨T.nolimit, ⟨mg, mb, T.g, T.b, fun x v q => ?_⟩, fun x f q => fn x f (lkN_mem q)⟩
  have hm := lkN_mem q
  rcases List.mem_append.mp hm with hm | hm
  · rcases List.mem_append.mp hm with hm | hm
    · obtain ⟨hx, hv⟩ := pickN_mem hm
      obtain ⟨v', y, h0, h1, h2⟩ := hc _ hx
      have hv' : lkN (topV body []) x = some v := hv
      rw [h0] at hv'; cases hv'
      exact ⟨y, h1, .inl h2⟩
    · obtain ⟨⟨x', f⟩, hp, e⟩ := List.mem_map.mp hm
      cases e
      rw [← hf] at hp
      obtain ⟨d, hd, e⟩ := List.mem_map.mp hp
      cases e
      obtain ⟨a, _, _, _, _, h1, _⟩ := T.fn d hd
      exact ⟨.ref a, .fn (faOf_of h1), .inl h1⟩
  · obtain ⟨⟨x', b⟩, hp, e⟩ := List.mem_map.mp hm
    cases e
    obtain ⟨h1, h2, h3⟩ := hb _ hp
    exact ⟨bfVal b, .bf, .inr ⟨h1, (T.builtins _ h3).trans h2⟩⟩
theorem rv_script {W : Wd} {P : Params} {h : Heap} : ∀ {xs : List Int} {vs : List Value}, WellAll P h vs (ofPys (xs.map PyData.int)) → RVs W h (xs.map V.int) vs
  | [], vs, w => by
    cases w
    exact .nil
  | x :: xs, vs, w => by
    simp only [List.map_cons, ofPys, ofPy] at w
    cases w with
    | cons a b =>
      cases a
      exact .cons .int (rv_script b)
theorem rv_list {W : Wd} {P : Params} {h : Heap} {v : Value} {xs : List Int} (w : Well P h v (ofPy (PyData.list (xs.map PyData.int)))) : RV W h (.list (xs.map V.int)) v := by
  simp only [ofPy] at w
  cases w with
  | list h1 h2 => exact .list h1 rfl rfl rfl (rv_script h2)
theorem law_ends {prog : Program} {w : World} {s₁ : Shared} {mean : ExcName → Option Value} {mg : Str → Option Value} {g : Gl} {fa : Addr} {law : Str} {v : Value} {xs : List Int} {n : Nat} {σ' : S} {c : ClaimW} {cl : Str → Option Addr} {args : List WData}
    (hb : BaseOk (wd0 prog w mg) g s₁.heap) (hmg : mg law = some (.ref fa)) (hn : n < 400) (hw : Well w.params s₁.heap v (ofPy (PyData.list (xs.map PyData.int)))) (hg : s₁.gens = #[])
    (hrun : (run g n).call [] law [.val (.list (xs.map V.int))] = .ok (.bool true) σ')
    (hnr : ∀ cls, c.raises args cls = false) (hp : c.post args (.bool true) args = true) :
    codeAny (model prog w) callerA (.call (.ref fa) ⟨[v], []⟩) (GoodW c cl mean args s₁) s₁ := by
  have hA : Room ((wd0 prog w mg).on []) callerA n := ⟨rfl, by show 301 + n < 900; omega, by show 4 + 10 * n < 9000; omega, rfl⟩
  have hC : CSta ((wd0 prog w mg).on []) s₁.heap s₁.heap [] [] s₁ := ⟨Sub.refl _, Sub.refl _, rfl, List.nodup_nil, fun _ h => (by cases h), fun _ _ h => (by simp at h), fun _ h => (by cases h)⟩
  have ra : RAs ((wd0 prog w mg).on []) s₁.heap [] [.val (.list (xs.map V.int))] [v] := .cons (.val (rv_list hw)) .nil
  refine codeAny_mono ((run_ok hb n []).call [] law _ _ _ hrun callerA s₁.heap [] s₁ [v] hA hC ra fa (faOf_of hmg)) fun r s' ⟨x, B', hr, e, c', rv⟩ => ?_
  subst hr
  cases rv
  exact ⟨.inl ⟨_, _, [], rfl, hnr, .bool true, hp, unshared_nil⟩, fun b o ho => c'.stays b o (e.sub b o ho), e.rest.2, e.rest.1.trans hg⟩
end

section
open PySem
set_option backward.match.sparseCases false
set_option maxRecDepth 100000
noncomputable def body2 : List Stmt := Challenge.pw_sc0058_01.main.body
noncomputable def cs2 : List Str := ["ENDMARKER", "NT_OFFSET", "EXACT_TOKEN_TYPES", "COMPILER_FLAG_NAMES", "ELLIPSIS_MARKER"]
noncomputable def bs2 : List (Str × Bf) := [("len", .len), ("sum", .sum), ("sorted", .sorted), ("hex", .hex), ("iter", .iter), ("next", .next), ("range", .range), ("list", .list), ("set", .set), ("enumerate", .enumerate), ("StopIteration", .stop)]
noncomputable def nf2 : { l : List (Str × Fn) // fnsL body2 = l } := by
  refine ⟨?_, ?_⟩
  rotate_left
  · conv => lhs; reduce
noncomputable def tab2 : { l : List (Str × V) // pickN (topV body2 []) cs2 ++ ((fnsL body2).map fun p => (p.1, V.fn p.1)) ++ (bs2.map fun p => (p.1, V.bf p.2)) = l } := by
  refine ⟨?_, ?_⟩
  rotate_left
  · conv => lhs; reduce
noncomputable def g2 : Gl := ⟨lkN tab2.1, lkN nf2.1⟩
theorem g2_eq : g2 = glWith body2 cs2 bs2 := by
  unfold g2 glWith
  rw [← tab2.2, ← nf2.2]
end

section
open PySem
set_option backward.match.sparseCases false
set_option maxRecDepth 100000
set_option linter.unusedVariables false
section
variable {g : Gl} {n : Nat} {cx : Cx} {σ σ' σ₁ σ₂ σ₃ σ₄ : S} {a b : A} {u v w : V} {e l r o t : Expr} {es : List Expr} {p q pr : Pos} {x nm : Str}
theorem at_of {mem : List (Option M)} {i : Nat} {m : M} (h : mem[i]? = some (some m)) : at? mem i = some m := by unfold at?; rw [h]
theorem at_lst {mem : List (Option M)} {i : Nat} {xs : List V} (h : mem[i]? = some (some (.lst xs))) : (at? mem i).bind lstOf = some xs := by rw [at_of h]; rfl
theorem lst_of {y : Str} {i : Nat} {xs : List V} (h : placeOf g cx σ e = some (y, i, .lst xs)) : lstAt g cx σ e = some (i, xs) := by unfold lstAt; rw [h]; rfl
theorem lst_no (h : placeOf g cx σ e = none) : lstAt g cx σ e = none := by unfold lstAt; rw [h]; rfl
theorem val_of (h : readRaw g cx σ x = some (.val v)) : (readRaw g cx σ x).bind valOf = some v := by rw [h]; rfl
theorem oB {α β : Type} {o : Option α} {a : α} {f : α → Out β} {r : Out β} (h : o = some a) (k : f a = r) : optB o f = r := by rw [h]; exact k
theorem bV {β : Type} {o : Out A} {v : V} {τ : S} {f : V → S → Out β} {r : Out β} (h : o = .ok (.val v) τ) (k : f v τ = r) : o.bindV f = r := by rw [h]; exact k
theorem bB {α β : Type} {o : Out α} {a : α} {τ : S} {f : α → S → Out β} {r : Out β} (h : o = .ok a τ) (k : f a τ = r) : o.bind f = r := by rw [h]; exact k
theorem bX {α β : Type} {o : Out α} {τ : S} {f : α → S → Out β} (h : o = .exc τ) : o.bind f = .exc τ := by rw [h]; rfl
theorem bVX {β : Type} {o : Out A} {τ : S} {f : V → S → Out β} (h : o = .exc τ) : o.bindV f = .exc τ := by rw [h]; rfl
theorem cF {α : Type} {b : Bool} {x y r : α} (h : b = false) (k : y = r) : cond b x y = r := by rw [h]; exact k
theorem cT {α : Type} {b : Bool} {x y r : α} (h : b = true) (k : x = r) : cond b x y = r := by rw [h]; exact k
theorem cN {α : Type} {b : Bool} {x y r : α} (h : b = true) (k : y = r) : cond (!b) x y = r := by rw [h]; exact k
theorem nX {α : Type} {o : Out α} {a : α} {τ : S} (h : o = .ok a τ) : noX o = .ok a τ := by rw [h]; rfl
theorem oF {α : Type} {o : Option α} {a : α} {τ : S} (h : o = some a) : Out.of o τ = .ok a τ := by rw [h]; rfl
theorem oV {o : Option V} {a : V} {τ : S} (h : o = some a) : Out.of (o.map A.val) τ = .ok (.val a) τ := by rw [h]; rfl
theorem ex_int {i : Int} {k} : (run g (n + 1)).ex cx σ (.Constant (.int i) k p) = .ok (.val (.int i)) σ := rfl
theorem ex_str {s : Str} {k} : (run g (n + 1)).ex cx σ (.Constant (.str s) k p) = .ok (.val (.str s)) σ := rfl
theorem ex_bool {c : Bool} {k} : (run g (n + 1)).ex cx σ (.Constant (.bool c) k p) = .ok (.val (.bool c)) σ := rfl
theorem ex_neg {i : Int} {k} : (run g (n + 1)).ex cx σ (.UnaryOp .USub (.Constant (.int i) k p) q) = .ok (.val (.int (-i))) σ := rfl
theorem ex_name (h : readName g cx σ x = .ok a σ') : (run g (n + 1)).ex cx σ (.Name x p) = .ok a σ' := by
  show noX (readName g cx σ x) = _
  rw [h]; rfl
theorem ex_nameV (h : readRaw g cx σ x = some (.val v)) : (run g (n + 1)).ex cx σ (.Name x p) = .ok (.val v) σ := ex_name (oB h rfl)
theorem ex_nameI {i : Nat} {xs : List V} (h : readRaw g cx σ x = some (.plc i)) (hi : σ.mem[i]? = some (some (.itr xs))) : (run g (n + 1)).ex cx σ (.Name x p) = .ok (.plc i) σ := ex_name (oB h (oB (at_of hi) rfl))
theorem ex_nameL {i : Nat} {xs : List V} {loc : List (Str × A)} {mem m' : List (Option M)} (h : readRaw g cx ⟨loc, mem⟩ x = some (.plc i)) (hi : mem[i]? = some (some (.lst xs))) (hs : mem.set i none = m') (hw : writeName cx ⟨loc, m'⟩ x (.val (.list xs)) = some σ') :
    (run g (n + 1)).ex cx ⟨loc, mem⟩ (.Name x p) = .ok (.val (.list xs)) σ' := ex_name (oB h (oB (at_of hi) (oB (hs ▸ hw) rfl)))
theorem wr_loc {loc l' : List (Str × A)} {mem : List (Option M)} (hk : lkN cx.scope.names x = some .local) (h : putN loc x a = l') : writeName cx ⟨loc, mem⟩ x a = some ⟨l', mem⟩ := by
  unfold writeName; rw [hk]; subst h; rfl
theorem wr_cell {loc : List (Str × A)} {mem m' : List (Option M)} {i : Nat} {c : Option A} (hk : lkN cx.scope.names x = some .cell) (hc : lkN cx.cells x = some i) (hi : mem[i]? = some (some (.cell c))) (h : mem.set i (some (.cell (some a))) = m') : writeName cx ⟨loc, mem⟩ x a = some ⟨loc, m'⟩ := by
  unfold writeName; rw [hk]; subst h
  show (lkN cx.cells x).bind _ = _
  rw [hc]
  show (at? mem i).bind _ = _
  rw [at_of hi]; rfl
theorem put_nil {α : Type} {a : α} : putN [] x a = [(x, a)] := rfl
theorem put_hit {α : Type} {a b : α} {y : Str} {r : List (Str × α)} (h : nEq x y = true) : putN ((y, b) :: r) x a = (x, a) :: r := by
  show cond (nEq x y) _ _ = _
  rw [h]; rfl
theorem put_miss {α : Type} {a b : α} {y : Str} {r r' : List (Str × α)} (h : nEq x y = false) (h2 : putN r x a = r') : putN ((y, b) :: r) x a = (y, b) :: r' := by
  show cond (nEq x y) _ _ = _
  rw [h, h2]; rfl
theorem set_0 {α : Type} {a b : α} {r : List α} : (b :: r).set 0 a = a :: r := rfl
theorem set_s {α : Type} {a b : α} {r r' : List α} {i : Nat} (h : r.set i a = r') : (b :: r).set (i + 1) a = b :: r' := by rw [List.set_cons_succ, h]
theorem app_n {α : Type} {l : List α} : [] ++ l = l := rfl
theorem app_e {α : Type} {l : List α} (h : l = []) : [] ++ l = [] := h
theorem app_c {α : Type} {b : α} {r l r' : List α} (h : r ++ l = r') : (b :: r) ++ l = b :: r' := by rw [List.cons_append, h]
theorem len_0 {α : Type} : ([] : List α).length = 0 := rfl
theorem len_s {α : Type} {b : α} {r : List α} {k : Nat} (h : r.length = k) : (b :: r).length = k + 1 := by rw [List.length_cons, h]
theorem tak_0 {α : Type} {l : List α} : l.take 0 = [] := List.take_zero
theorem tak_s {α : Type} {b : α} {r r' : List α} {i : Nat} (h : r.take i = r') : (b :: r).take (i + 1) = b :: r' := by rw [List.take_succ_cons, h]
theorem bl_nil {scope : Scope} : bindLoc scope [] [] = [] := rfl
theorem bl_loc {scope : Scope} {xs : List Str} {as : List A} {l : List (Str × A)} (hk : lkN scope.names x = some .local) (h : bindLoc scope xs as = l) : bindLoc scope (x :: xs) (a :: as) = (x, a) :: l := by
  show cond (isLocK (lkN scope.names x)) ((x, a) :: bindLoc scope xs as) (bindLoc scope xs as) = _
  rw [hk, h]; rfl
theorem bl_cell {scope : Scope} {xs : List Str} {as : List A} {l : List (Str × A)} (hk : lkN scope.names x = some .cell) (h : bindLoc scope xs as = l) : bindLoc scope (x :: xs) (a :: as) = l := by
  show cond (isLocK (lkN scope.names x)) ((x, a) :: bindLoc scope xs as) (bindLoc scope xs as) = _
  rw [hk, h]; rfl
theorem bc_nil {scope : Scope} {ps : List Str} {as : List A} (h : cellNames scope.names = []) : bindCells scope ps as = [] := by unfold bindCells; rw [h]; rfl
noncomputable def cellArg : List Str → List A → Str → Option A
  | p :: ps, a :: as, x => cond (nEq x p) (some a) (cellArg ps as x)
  | [], _, _ => none
  | _ :: _, [], _ => none
theorem cellArg_eq {x : Str} : ∀ {ps : List Str} {as : List A}, lkN (ps.zip as) x = cellArg ps as x
  | [], _ => rfl
  | _ :: _, [] => rfl
  | p :: ps, a :: as => by
    show cond (nEq x p) _ (lkN (ps.zip as) x) = cond (nEq x p) _ _
    rw [cellArg_eq]
theorem ca_hit {ps : List Str} {as : List A} {y : Str} (h : nEq x y = true) : cellArg (y :: ps) (a :: as) x = some a := by show cond (nEq x y) _ _ = _; rw [h]; rfl
theorem ca_miss {ps : List Str} {as : List A} {y : Str} {r : Option A} (h : nEq x y = false) (h2 : cellArg ps as x = r) : cellArg (y :: ps) (a :: as) x = r := by show cond (nEq x y) _ (cellArg ps as x) = _; rw [h, h2]; rfl
theorem ca_nil : cellArg [] [] x = none := rfl
theorem bc_1 {scope : Scope} {ps : List Str} {as : List A} {c₁ : Str} {a₁ : Option A} (h : cellNames scope.names = [c₁]) (h1 : cellArg ps as c₁ = a₁) : bindCells scope ps as = [some (.cell a₁)] := by
  unfold bindCells; rw [h, ← h1, ← cellArg_eq]; rfl
theorem bc_2 {scope : Scope} {ps : List Str} {as : List A} {c₁ c₂ : Str} {a₁ a₂ : Option A} (h : cellNames scope.names = [c₁, c₂]) (h1 : cellArg ps as c₁ = a₁) (h2 : cellArg ps as c₂ = a₂) : bindCells scope ps as = [some (.cell a₁), some (.cell a₂)] := by
  unfold bindCells; rw [h, ← h1, ← h2, ← cellArg_eq, ← cellArg_eq]; rfl
theorem bc_4 {scope : Scope} {ps : List Str} {as : List A} {c₁ c₂ c₃ c₄ : Str} {a₁ a₂ a₃ a₄ : Option A} (h : cellNames scope.names = [c₁, c₂, c₃, c₄]) (h1 : cellArg ps as c₁ = a₁) (h2 : cellArg ps as c₂ = a₂) (h3 : cellArg ps as c₃ = a₃) (h4 : cellArg ps as c₄ = a₄) :
    bindCells scope ps as = [some (.cell a₁), some (.cell a₂), some (.cell a₃), some (.cell a₄)] := by
  unfold bindCells; rw [h, ← h1, ← h2, ← h3, ← h4, ← cellArg_eq, ← cellArg_eq, ← cellArg_eq, ← cellArg_eq]; rfl
theorem sg_name {v : V} (hw : writeName cx σ x (.val v) = some σ₁) : assign cx σ (.Name x p) v = .ok () σ₁ := oB hw rfl
theorem sa_nil : storeAll cx σ [] [] = .ok () σ := rfl
theorem sa_cons {v : V} {ts : List Expr} {vs : List V} (hw : writeName cx σ x (.val v) = some σ₁) (h : storeAll cx σ₁ ts vs = .ok () σ₂) : storeAll cx σ (.Name x p :: ts) (v :: vs) = .ok () σ₂ := bB (a := ()) (oB hw rfl) h
theorem sg_tup {ts : List Expr} {k} {vs : List V} (h : storeAll cx σ ts vs = .ok () σ₁) : assign cx σ (.Tuple ts k p) (.tup vs) = .ok () σ₁ := h
theorem sg_lst {ts : List Expr} {k} {vs : List V} (h : storeAll cx σ ts vs = .ok () σ₁) : assign cx σ (.Tuple ts k p) (.list vs) = .ok () σ₁ := h
theorem ex_bin {op} (h1 : (run g n).ex cx σ l = .ok (.val u) σ₁) (h2 : (run g n).ex cx σ₁ r = .ok (.val v) σ₂) (h3 : binop op u v = some w) : (run g (n + 1)).ex cx σ (.BinOp l op r p) = .ok (.val w) σ₂ := nX (bV h1 (bV h2 (oV h3)))
theorem ex_if {c : Bool} {i₁ i₂ : Expr} (h1 : (run g n).tr cx σ t = .ok c σ₁) (h2 : c = true → (run g n).ex cx σ₁ i₁ = .ok (.val u) σ₂) (h3 : c = false → (run g n).ex cx σ₁ i₂ = .ok (.val v) σ₂) :
    (run g (n + 1)).ex cx σ (.IfExp t i₁ i₂ p) = .ok (.val (cond c u v)) σ₂ := by
  show noX (((run g n).tr cx σ t).bind fun c σ₁ => match c with | true => (run g n).ex cx σ₁ i₁ | false => (run g n).ex cx σ₁ i₂) = _
  rw [h1]; dsimp only [Out.bind]
  cases c with
  | true => dsimp only; rw [h2 rfl]; rfl
  | false => dsimp only; rw [h3 rfl]; rfl
theorem ex_cmp {op} {c : Bool} (h : exCmp g (run g n) cx σ l op r = .ok c σ₁) : (run g (n + 1)).ex cx σ (.Compare l [op] [r] p) = .ok (.val (.bool c)) σ₁ := nX (bB h rfl)
theorem ex_list {vs : List V} (h : exVs (run g n) cx σ es = .ok vs σ₁) (hl : Nat.ble vs.length lim = true) : (run g (n + 1)).ex cx σ (.List es p) = .ok (.val (.list vs)) σ₁ := nX (bB (bB h (cT hl rfl)) rfl)
theorem ex_tuple {vs : List V} {k} (h : exVs (run g n) cx σ es = .ok vs σ₁) (hl : Nat.ble vs.length lim = true) : (run g (n + 1)).ex cx σ (.Tuple es k p) = .ok (.val (.tup vs)) σ₁ := nX (bB h (cT hl rfl))
theorem ex_lcomp {c : Comprehension} {scope} (h : exComp g (run g n) cx σ e c scope = .ok v σ₁) : (run g (n + 1)).ex cx σ (.ListComp e [c] scope p) = .ok (.val v) σ₁ := nX (bB h rfl)
theorem as_nil : exs (run g n) cx σ [] = .ok [] σ := rfl
theorem as_cons {as : List A} (hs : starred e = false) (h1 : (run g n).ex cx σ e = .ok a σ₁) (h2 : exs (run g n) cx σ₁ es = .ok as σ₂) : exs (run g n) cx σ (e :: es) = .ok (a :: as) σ₂ := cF hs (bB h1 (bB h2 rfl))
theorem vs_of {as : List A} {vs : List V} (h : exs (run g n) cx σ es = .ok as σ₁) (hv : valsOf as = some vs) : exVs (run g n) cx σ es = .ok vs σ₁ := bB h (oF hv)
theorem vs_nil : exVs (run g n) cx σ [] = .ok [] σ := rfl
theorem vs_cons {vs : List V} (hs : starred e = false) (h1 : (run g n).ex cx σ e = .ok (.val v) σ₁) (h2 : exVs (run g n) cx σ₁ es = .ok vs σ₂) : exVs (run g n) cx σ (e :: es) = .ok (v :: vs) σ₂ := by
  unfold exVs at h2
  obtain ⟨as, τ, h3, h4⟩ : ∃ as τ, exs (run g n) cx σ₁ es = .ok as τ ∧ Out.of (valsOf as) τ = .ok vs σ₂ := by
    cases q : exs (run g n) cx σ₁ es with
    | ok as τ => rw [q] at h2; exact ⟨as, τ, rfl, h2⟩
    | exc τ => rw [q] at h2; cases h2
    | bad => rw [q] at h2; cases h2
  cases hv : valsOf as with
  | none => rw [hv] at h4; cases h4
  | some us =>
    rw [hv] at h4; cases h4
    exact vs_of (as_cons hs h1 h3) (by simp only [valsOf, hv]; rfl)
theorem ex_fn {as : List A} {vs : List V} {τ : S} (hr : readRaw g cx σ x = some (.val (.fn nm))) (hf : (g.fns nm).isSome = true) (h1 : exs (run g n) cx σ es = .ok as σ₁) (hv : valsOf as = some vs) (h2 : (run g n).call [] nm as = .ok v τ) :
    (run g (n + 1)).ex cx σ (.Call (.Name x p) es [] q) = .ok (.val v) σ₁ := oB (val_of hr) (cN hf (bB (nX h1) (by rw [hv]; exact bB (nX h2) rfl)))
theorem ex_fnp {as : List A} {loc l' : List (Str × A)} {mem m' : List (Option M)} (hr : readRaw g cx σ x = some (.val (.fn nm))) (hf : (g.fns nm).isSome = true) (h1 : exs (run g n) cx σ es = .ok as ⟨loc, mem⟩) (hv : valsOf as = none) (h2 : (run g n).call mem nm as = .ok v ⟨l', m'⟩) :
    (run g (n + 1)).ex cx σ (.Call (.Name x p) es [] q) = .ok (.val v) ⟨loc, m'⟩ := oB (val_of hr) (cN hf (bB (nX h1) (by rw [hv]; show outer loc ((run g n).call mem nm as) = _; rw [h2]; rfl)))
theorem ex_fnpX {as : List A} {loc l' : List (Str × A)} {mem m' : List (Option M)} (hr : readRaw g cx σ x = some (.val (.fn nm))) (hf : (g.fns nm).isSome = true) (h1 : exs (run g n) cx σ es = .ok as ⟨loc, mem⟩) (hv : valsOf as = none) (h2 : (run g n).call mem nm as = .exc ⟨l', m'⟩) :
    (run g (n + 1)).ex cx σ (.Call (.Name x p) es [] q) = .exc ⟨loc, m'⟩ := oB (val_of hr) (cN hf (bB (nX h1) (by rw [hv]; show outer loc ((run g n).call mem nm as) = _; rw [h2]; rfl)))
noncomputable def plainBf : Bf → Bool
  | .iter => false
  | .next => false
  | .len => false
  | .sorted => false
  | _ => true
theorem ex_bf {bf : Bf} (hr : readRaw g cx σ x = some (.val (.bf bf))) (hb : plainBf bf = true) (hs : starred e = false) (h1 : (run g n).ex cx σ e = .ok (.val v) σ₁) (h2 : bfun bf v = some w) :
    (run g (n + 1)).ex cx σ (.Call (.Name x p) [e] [] q) = .ok (.val w) σ₁ := oB (val_of hr) (cF hs (by
  rcases bf with ⟨⟩ <;> first | exact absurd hb (by decide) | exact nX (bV h1 (oV h2))))
theorem ex_sorted (hr : readRaw g cx σ x = some (.val (.bf .sorted))) (hs : starred e = false) (hn : argOf g cx isSetB σ e = none) (h1 : (run g n).ex cx σ e = .ok (.val v) σ₁) (h2 : bfun .sorted v = some w) :
    (run g (n + 1)).ex cx σ (.Call (.Name x p) [e] [] q) = .ok (.val w) σ₁ := oB (val_of hr) (cF hs (by
  show (match argOf g cx isSetB σ e with | some _ => _ | none => _) = _
  rw [hn]; exact nX (bV h1 (oV h2))))
theorem ex_sset {y : Str} {q' r' : Pos} (hr : readRaw g cx σ x = some (.val (.bf .sorted))) (hr' : readRaw g cx σ y = some (.val (.bf .set))) (hs : starred e = false) (h1 : (run g n).ex cx σ e = .ok (.val v) σ₁) (h2 : setV v = some w) :
    (run g (n + 1)).ex cx σ (.Call (.Name x p) [.Call (.Name y q') [e] [] r'] [] q) = .ok (.val w) σ₁ := oB (val_of hr) (by
  have hn : argOf g cx isSetB σ (.Call (.Name y q') [e] [] r') = some e := by
    show cond ((((readRaw g cx σ y).bind valOf).bind bfOf?).any isSetB && true) _ none = _
    rw [hr']; rfl
  show (match argOf g cx isSetB σ (.Call (.Name y q') [e] [] r') with | some _ => _ | none => _) = _
  rw [hn]; exact cF hs (nX (bV h1 (oV h2))))
theorem ex_len (hr : readRaw g cx σ x = some (.val (.bf .len))) (hs : starred e = false) (hp : placeOf g cx σ e = none) (h1 : (run g n).ex cx σ e = .ok (.val v) σ₁) (h2 : bfun .len v = some w) :
    (run g (n + 1)).ex cx σ (.Call (.Name x p) [e] [] q) = .ok (.val w) σ₁ := oB (val_of hr) (cF hs (by
  show (match lstAt g cx σ e with | some _ => _ | none => _) = _
  rw [lst_no hp]; exact nX (bV h1 (oV h2))))
theorem ex_lenp {y i} {xs : List V} (hr : readRaw g cx σ x = some (.val (.bf .len))) (hs : starred e = false) (hp : placeOf g cx σ e = some (y, i, .lst xs)) (hl : Nat.ble xs.length lim = true) :
    (run g (n + 1)).ex cx σ (.Call (.Name x p) [e] [] q) = .ok (.val (.int xs.length)) σ := oB (val_of hr) (cF hs (by
  show (match lstAt g cx σ e with | some _ => _ | none => _) = _
  rw [lst_of hp]; exact cT hl rfl))
theorem ex_iter {xs : List V} {loc : List (Str × A)} {mem m' : List (Option M)} (hr : readRaw g cx σ x = some (.val (.bf .iter))) (hs : starred e = false) (h1 : (run g n).ex cx σ e = .ok (.val (.list xs)) ⟨loc, mem⟩) (hm : mem ++ [some (.itr xs)] = m') {j : Nat} (hj : mem.length = j) :
    (run g (n + 1)).ex cx σ (.Call (.Name x p) [e] [] q) = .ok (.plc j) ⟨loc, m'⟩ := by
  subst hm; subst hj
  exact oB (val_of hr) (cF hs (nX (bV h1 rfl)))
theorem ex_next {i : Nat} {xs : List V} {loc : List (Str × A)} {mem m' : List (Option M)} (hr : readRaw g cx σ x = some (.val (.bf .next))) (hs : starred e = false) (h1 : (run g n).ex cx σ e = .ok (.plc i) ⟨loc, mem⟩) (hm : mem[i]? = some (some (.itr (v :: xs)))) (hs' : mem.set i (some (.itr xs)) = m') :
    (run g (n + 1)).ex cx σ (.Call (.Name x p) [e] [] q) = .ok (.val v) ⟨loc, m'⟩ := by
  subst hs'
  exact oB (val_of hr) (cF hs (bB (nX h1) (oB (a := v :: xs) (by rw [at_of hm]; rfl) rfl)))
theorem ex_nextX {i : Nat} {loc : List (Str × A)} {mem m' : List (Option M)} (hr : readRaw g cx σ x = some (.val (.bf .next))) (hs : starred e = false) (h1 : (run g n).ex cx σ e = .ok (.plc i) ⟨loc, mem⟩) (hm : mem[i]? = some (some (.itr []))) (hs' : mem.set i none = m') :
    (run g (n + 1)).ex cx σ (.Call (.Name x p) [e] [] q) = .exc ⟨loc, m'⟩ := by
  subst hs'
  exact oB (val_of hr) (cF hs (bB (nX h1) (oB (a := []) (by rw [at_of hm]; rfl) rfl)))
theorem ex_meth {m : Mt} {vs : List V} {apos : Pos} (hm : mtOf nm = some m) (hk : methOk o es apos q = true) (h1 : (run g n).ex cx σ o = .ok (.val u) σ₁) (h2 : exVs (run g n) cx σ₁ es = .ok vs σ₂) (h3 : meth m u vs = some v) :
    (run g (n + 1)).ex cx σ (.Call (.Attribute o nm apos) es [] q) = .ok (.val v) σ₂ := oB hm (cN hk (nX (bV h1 (bB h2 (oV h3)))))
theorem ex_item {i : Expr} (hi : isSlice i = false) (hp : placeOf g cx σ o = none) (h1 : (run g n).ex cx σ o = .ok (.val u) σ₁) (h2 : (run g n).ex cx σ₁ i = .ok (.val v) σ₂) (h3 : getIx u v = some w) :
    (run g (n + 1)).ex cx σ (.Subscript o i p) = .ok (.val w) σ₂ := by
  show exSub g (run g n) cx σ o i = _
  rw [exSub_ix hi, exIx, hp]; exact bV (nX h1) (bV h2 (oV h3))
theorem ex_itemp {i : Expr} {y : Str} {j : Nat} {m m' : M} (hi : isSlice i = false) (hp : placeOf g cx σ o = some (y, j, m)) (h1 : (run g n).ex cx σ i = .ok (.val v) σ₁) (hm : σ₁.mem[j]? = some (some m')) (ht : thaw m' = some u) (h3 : getIx u v = some w) :
    (run g (n + 1)).ex cx σ (.Subscript o i p) = .ok (.val w) σ₁ := by
  show exSub g (run g n) cx σ o i = _
  rw [exSub_ix hi, exIx, hp]; exact nX (bV h1 (oB (a := u) (by show (at? σ₁.mem j).bind thaw = _; rw [at_of hm]; exact ht) (oV h3)))
theorem part_none : exPart (run g n) cx σ none = .ok none σ := rfl
theorem part_some {k : Option Int} (h : (run g n).ex cx σ e = .ok (.val v) σ₁) (hk : partOf v = some k) : exPart (run g n) cx σ (some e) = .ok k σ₁ := bV h (oF hk)
theorem ex_slicel {lo hi st : Option Expr} {xs : List V} {l h s : Option Int} (h1 : (run g n).ex cx σ o = .ok (.val (.list xs)) σ₁) (h2 : exPart (run g n) cx σ₁ lo = .ok l σ₂) (h3 : exPart (run g n) cx σ₂ hi = .ok h σ₃) (h4 : exPart (run g n) cx σ₃ st = .ok s σ₄)
    (hl : Nat.ble xs.length lim = true) (hs : decide (s ≠ some 0) = true) {ys : List V} (hx : pickL xs l h s = ys) : (run g (n + 1)).ex cx σ (.Subscript o (.Slice lo hi st q) p) = .ok (.val (.list ys)) σ₄ := by
  subst hx
  exact nX (bV h1 (bB h2 (bB h3 (bB h4 (oV (cT (by rw [hl, hs]; rfl) rfl))))))
theorem ex_slices {lo hi : Option Expr} {y : Str} {l h : Option Int} (h1 : (run g n).ex cx σ o = .ok (.val (.str y)) σ₁) (h2 : exPart (run g n) cx σ₁ lo = .ok l σ₂) (h3 : exPart (run g n) cx σ₂ hi = .ok h σ₃)
    (hl : Nat.ble y.length lim = true) : (run g (n + 1)).ex cx σ (.Subscript o (.Slice lo hi none q) p) = .ok (.val (.str (Txt.slice y l h))) σ₃ := nX (bV h1 (bB h2 (bB h3 (bB part_none (oV (cT hl rfl))))))
theorem cmp_v {op} {c : Bool} (hs : isSetE r = false) (h1 : (run g n).ex cx σ l = .ok (.val u) σ₁) (hp : placeOf g cx σ₁ r = none) (h2 : (run g n).ex cx σ₁ r = .ok (.val v) σ₂) (h3 : cmp op u v = some c) : exCmp g (run g n) cx σ l op r = .ok c σ₂ := cF hs (bV h1 (by rw [hp]; exact bV h2 (oF h3)))
theorem cmp_p {op} {c : Bool} {y : Str} {i : Nat} {xs : List V} (hs : isSetE r = false) (h1 : (run g n).ex cx σ l = .ok (.val u) σ₁) (hp : placeOf g cx σ₁ r = some (y, i, .lst xs)) (h3 : cmp op u (.list xs) = some c) : exCmp g (run g n) cx σ l op r = .ok c σ₁ := cF hs (bV h1 (by rw [hp]; exact oF h3))
theorem tr_cmp {op} {c : Bool} (h : exCmp g (run g n) cx σ l op r = .ok c σ₁) : (run g (n + 1)).tr cx σ (.Compare l [op] [r] p) = .ok c σ₁ := h
theorem tr_name {c : Bool} (h : (run g n).ex cx σ (.Name x p) = .ok (.val v) σ₁) (ht : truth v = some c) : (run g (n + 1)).tr cx σ (.Name x p) = .ok c σ₁ := bV h (oF ht)
theorem tr_call {c : Bool} {f : Expr} {ks} (h : (run g n).ex cx σ (.Call f es ks p) = .ok (.val v) σ₁) (ht : truth v = some c) : (run g (n + 1)).tr cx σ (.Call f es ks p) = .ok c σ₁ := bV h (oF ht)
theorem tr_bin {c : Bool} {op} (h : (run g n).ex cx σ (.BinOp l op r p) = .ok (.val v) σ₁) (ht : truth v = some c) : (run g (n + 1)).tr cx σ (.BinOp l op r p) = .ok c σ₁ := bV h (oF ht)
theorem tr_bool {c : Bool} {k} : (run g (n + 1)).tr cx σ (.Constant (.bool c) k p) = .ok c σ := rfl
theorem tr_and2 {c d : Bool} {e₁ e₂ : Expr} (h1 : (run g n).tr cx σ e₁ = .ok c σ) (h2 : c = true → (run g n).tr cx σ e₂ = .ok d σ) : (run g (n + 1)).tr cx σ (.BoolOp .And [e₁, e₂] p) = .ok (c && d) σ := by
  show ((run g n).tr cx σ e₁).bind _ = _
  rw [h1]; dsimp only [Out.bind]
  cases c with
  | false => rfl
  | true =>
    show ((run g n).tr cx σ e₂).bind _ = _
    rw [h2 rfl]; dsimp only [Out.bind]
    cases d <;> rfl
noncomputable def enumV (xs : List V) (i : Nat) : List V := (xs.zipIdx i).map fun p => V.tup [.int (Int.ofNat p.2), p.1]
theorem rng5 : itemsOf (.range 5) = some [.int (.ofNat 0), .int (.ofNat 1), .int (.ofNat 2), .int (.ofNat 3), .int (.ofNat 4)] := rfl
theorem rng10 : itemsOf (.range 10) = some [.int (.ofNat 0), .int (.ofNat 1), .int (.ofNat 2), .int (.ofNat 3), .int (.ofNat 4), .int (.ofNat 5), .int (.ofNat 6), .int (.ofNat 7), .int (.ofNat 8), .int (.ofNat 9)] := rfl
theorem src_e {xs : List V} (hs : isSetE e = false) (hc : ∀ f p es q, e = .Call (.Name f p) es [] q → es.length ≠ 1) (h : (run g n).ex cx σ e = .ok (.val v) σ₁) (hi : itemsOf v = some xs) : src g (run g n) cx σ t e = .ok xs σ₁ := cF hs (by
  have hn : enumArg g cx σ e = none := by
    rcases e with ⟨⟩ <;> first | rfl | skip
    rename_i f es ks q
    rcases f with ⟨⟩ <;> first | rfl | skip
    rename_i y p
    show cond _ (one es) none = none
    rcases ks with _ | _
    · rcases es with _ | ⟨a, _ | ⟨b, r⟩⟩
      · rcases (((readRaw g cx σ y).bind valOf).bind bfOf?).any isEnumB <;> rfl
      · exact absurd rfl (hc _ _ _ _ rfl)
      · rcases (((readRaw g cx σ y).bind valOf).bind bfOf?).any isEnumB <;> rfl
    · rw [show (((((readRaw g cx σ y).bind valOf).bind bfOf?).any isEnumB && (_ :: _ : List Keyword).isEmpty) = false) from Bool.and_false _]; rfl
  rw [hn]; exact bV h (oF hi))
theorem src_c {xs : List V} {b : A} (hr : readRaw g cx σ x = some b) (hb : b ≠ .val (.bf .enumerate)) (h : (run g n).ex cx σ (.Call (.Name x p) [e] [] q) = .ok (.val v) σ₁) (hi : itemsOf v = some xs) : src g (run g n) cx σ t (.Call (.Name x p) [e] [] q) = .ok xs σ₁ := cF rfl (by
  have hn : enumArg g cx σ (.Call (.Name x p) [e] [] q) = none := by
    show cond ((((readRaw g cx σ x).bind valOf).bind bfOf?).any isEnumB && true) _ none = none
    rw [hr]
    rcases b with w | _
    · rcases w with ⟨⟩ <;> first | rfl | skip
      rename_i f
      rcases f with ⟨⟩ <;> first | rfl | exact absurd rfl hb
    · rfl
  rw [hn]; exact bV h (oF hi))
theorem src_enum {xs : List V} (hr : readRaw g cx σ x = some (.val (.bf .enumerate))) (ht : isTup t = true) (hs : starred e = false) (h : (run g n).ex cx σ e = .ok (.val v) σ₁) (hi : enumOf v = some xs) {ys : List V} (hz : enumV xs 0 = ys) :
    src g (run g n) cx σ t (.Call (.Name x p) [e] [] q) = .ok ys σ₁ := by
  subst hz
  have hn : enumArg g cx σ (.Call (.Name x p) [e] [] q) = some e := by
    show cond ((((readRaw g cx σ x).bind valOf).bind bfOf?).any isEnumB && true) _ none = _
    rw [hr]; rfl
  refine cF rfl ?_
  rw [hn]; exact cF (by rw [ht, hs]; rfl) (bV h (oF (by rw [hi]; rfl)))
theorem comp_ok {tg it : Expr} {ifs : List Expr} {as : Int} {scope : Scope} {xs ys : List V} {loc l' : List (Str × A)} {mem m₁ m₂ m₃ : List (Option M)} (ha : Nat.beq as.natAbs 0 = true) (hk : scopeOk scope cx = true) (h1 : src g (run g n) cx σ tg it = .ok xs ⟨loc, mem⟩)
    (hm : mem ++ newCells scope = m₁) {j : Nat} (hj : mem.length = j) (h2 : turns (run g n) (inner scope cx j) tg ifs e ⟨[], m₁⟩ xs = .ok ys ⟨l', m₂⟩) (hl : Nat.ble ys.length lim = true) (ht : m₂.take j = m₃) (hc : closed j m₃ = true) :
    exComp g (run g n) cx σ e ⟨tg, it, ifs, as⟩ scope = .ok (.list ys) ⟨loc, m₃⟩ := by
  subst hm; subst hj; subst ht
  refine cN (by rw [ha, hk]; rfl) (bB h1 ?_)
  show back loc mem.length ((turns (run g n) (inner scope cx mem.length) tg ifs e ⟨[], mem ++ newCells scope⟩ xs).bind _) = _
  rw [bB h2 (cT hl rfl)]
  exact cT hc rfl
theorem turns_cons {ifs} {vs ys : List V} (h1 : assign cx σ t v = .ok () σ₁) (h2 : tests (run g n) cx σ₁ ifs = .ok true σ₂) (h3 : (run g n).ex cx σ₂ e = .ok (.val u) σ₃) (h4 : turns (run g n) cx t ifs e σ₃ vs = .ok ys σ₄) :
    turns (run g n) cx t ifs e σ (v :: vs) = .ok (u :: ys) σ₄ := bB h1 (bB h2 (bV h3 (bB h4 rfl)))
theorem tests_nil : tests (run g n) cx σ [] = .ok true σ := rfl
theorem tests_one {c : Bool} (h : (run g n).tr cx σ e = .ok c σ₁) : tests (run g n) cx σ [e] = .ok c σ₁ := by
  show ((run g n).tr cx σ e).bind _ = _
  rw [h]; dsimp only [Out.bind]
  cases c <;> rfl
variable {s : Stmt} {ss : List Stmt} {f : Fl}
theorem blk {o : Out Fl} (h : stsStep g (run g n) cx σ ss = o) : (run g (n + 1)).sts cx σ ss = o := h
theorem sts_nil : stsStep g (run g n) cx σ [] = .ok .nxt σ := rfl
theorem sts_cons (h1 : stStep g (run g n) cx σ s = .ok .nxt σ₁) (h2 : stsStep g (run g n) cx σ₁ ss = .ok f σ₂) : stsStep g (run g n) cx σ (s :: ss) = .ok f σ₂ := by
  show (stStep g (run g n) cx σ s).bind _ = _
  rw [h1]; exact h2
theorem sts_ret (h1 : stStep g (run g n) cx σ s = .ok (.ret v) σ₁) : stsStep g (run g n) cx σ (s :: ss) = .ok (.ret v) σ₁ := by
  show (stStep g (run g n) cx σ s).bind _ = _
  rw [h1]; rfl
theorem sts_one (h1 : stStep g (run g n) cx σ s = .ok f σ₁) : stsStep g (run g n) cx σ [s] = .ok f σ₁ := by
  show (stStep g (run g n) cx σ s).bind _ = _
  rw [h1]; cases f <;> rfl
theorem sts_exc (h1 : stStep g (run g n) cx σ s = .exc σ₁) : stsStep g (run g n) cx σ (s :: ss) = .exc σ₁ := by
  show (stStep g (run g n) cx σ s).bind _ = _
  rw [h1]; rfl
theorem st_ret (h : (run g n).ex cx σ e = .ok (.val v) σ₁) : stStep g (run g n) cx σ (.Return (some e) p) = .ok (.ret v) σ₁ := nX (bV h rfl)
noncomputable def plainE : Expr → Bool
  | .ListComp .. => false
  | .SetComp .. => false
  | .DictComp .. => false
  | e => !isF e
theorem st_set (hc : plainE e = true) (h : (run g n).ex cx σ e = .ok a σ₁) (hw : writeName cx σ₁ x a = some σ₂) : stStep g (run g n) cx σ (.Assign [.Name x p] e q) = .ok .nxt σ₂ := by
  have main : isF e = false → isCompE e = false → nameGo (run g n) cx σ x e = .ok .nxt σ₂ := fun hf hi => cF hi (by rw [hf]; exact bB h (bB (a := ()) (oB hw rfl) rfl))
  show assignName g (run g n) cx σ x e = _
  rcases e with ⟨⟩ <;> first | exact main rfl rfl | exact main (not_tt hc) rfl | cases hc
theorem st_setX (hc : plainE e = true) (h : (run g n).ex cx σ e = .exc σ₁) : stStep g (run g n) cx σ (.Assign [.Name x p] e q) = .exc σ₁ := by
  have main : isF e = false → isCompE e = false → nameGo (run g n) cx σ x e = .exc σ₁ := fun hf hi => cF hi (by rw [hf]; exact bX h)
  show assignName g (run g n) cx σ x e = _
  rcases e with ⟨⟩ <;> first | exact main rfl rfl | exact main (not_tt hc) rfl | cases hc
theorem F_dict : exF (run g n) cx σ (.Dict [] [] p) = .ok (.dct [] []) σ := rfl
theorem st_setF {m : M} {loc : List (Str × A)} {mem m' : List (Option M)} (hc : isF e = true) (h : exF (run g n) cx σ e = .ok m ⟨loc, mem⟩) (hm : mem ++ [some m] = m') {j : Nat} (hj : mem.length = j) (hw : writeName cx ⟨loc, m'⟩ x (.plc j) = some σ₂) : stStep g (run g n) cx σ (.Assign [.Name x p] e q) = .ok .nxt σ₂ := by
  subst hm; subst hj
  have main : isCompE e = false → nameGo (run g n) cx σ x e = .ok .nxt σ₂ := fun hi => cF hi (by rw [hc]; exact nX (bB h (bB (a := ()) (oB hw rfl) rfl)))
  show assignName g (run g n) cx σ x e = _
  rcases e with ⟨⟩ <;> first | exact main rfl | cases hc
theorem st_setC {c : Comprehension} {scope} (h : exComp g (run g n) cx σ e c scope = .ok v σ₁) (hw : writeName cx σ₁ x (.val v) = some σ₂) : stStep g (run g n) cx σ (.Assign [.Name x p] (.ListComp e [c] scope pr) q) = .ok .nxt σ₂ := nX (bB h (bB (a := ()) (oB hw rfl) rfl))
theorem st_setD {c : Comprehension} {scope} {k : Expr} (h : exCompD g (run g n) cx σ k e c scope = .ok v σ₁) (hw : writeName cx σ₁ x (.val v) = some σ₂) : stStep g (run g n) cx σ (.Assign [.Name x p] (.DictComp k e [c] scope pr) q) = .ok .nxt σ₂ := nX (bB h (bB (a := ()) (oB hw rfl) rfl))
theorem st_unpack {ts : List Expr} {k} (ht : tupE e = none) (h : (run g n).ex cx σ e = .ok (.val v) σ₁) (ha : assign cx σ₁ (.Tuple ts k p) v = .ok () σ₂) : stStep g (run g n) cx σ (.Assign [.Tuple ts k p] e q) = .ok .nxt σ₂ := nX (by rw [ht]; exact bV h (bB ha rfl))
theorem st_swap {ts es' : List Expr} {k} {vs : List V} (ht : tupE e = some es') (hs : swapOk cx ts es' = true) (h : (run g n).ex cx σ e = .ok (.val (.tup vs)) σ₁) (ha : storeAll cx σ₁ ts.reverse vs.reverse = .ok () σ₂) : stStep g (run g n) cx σ (.Assign [.Tuple ts k p] e q) = .ok .nxt σ₂ := nX (by rw [ht]; exact cN hs (bV h (bB ha rfl)))
theorem st_swap2 {t₁ t₂ : Expr} {es' : List Expr} {k} {v₁ v₂ : V} (ht : tupE e = some es') (hs : swapOk cx [t₁, t₂] es' = true) (h : (run g n).ex cx σ e = .ok (.val (.tup [v₁, v₂])) σ₁) (ha : storeAll cx σ₁ [t₂, t₁] [v₂, v₁] = .ok () σ₂) : stStep g (run g n) cx σ (.Assign [.Tuple [t₁, t₂] k p] e q) = .ok .nxt σ₂ :=
  st_swap ht hs h ha
theorem st_append {y : Str} {i : Nat} {xs xs' : List V} {apos : Pos} {loc : List (Str × A)} {mem m' : List (Option M)} (hm : mtOf nm = some .append) (hp : placeOf g cx σ o = some (y, i, .lst xs)) (hk : methOk o [e] apos p = true) (hs : starred e = false) (h : (run g n).ex cx σ e = .ok (.val v) ⟨loc, mem⟩)
    (hi : mem[i]? = some (some (.lst xs'))) (hl : Nat.ble xs'.length lim = true) (hs' : mem.set i (some (.lst (xs' ++ [v]))) = m') : stStep g (run g n) cx σ (.Expr (.Call (.Attribute o nm apos) [e] [] p) q) = .ok .nxt ⟨loc, m'⟩ := by
  subst hs'
  exact nX (oB (a := ((o, nm, apos), e, p)) rfl (oB (lst_of hp) (cN (by rw [hk, hs]; rfl) (bV h (oB (at_lst hi) (oB (a := xs' ++ [v]) (by show (mtOf nm).bind _ = _; rw [hm]; exact cT hl rfl) rfl))))))
theorem st_put {y : Str} {i : Nat} {m : M} {k : Str} {ix : Expr} {ks vs : List V} {loc : List (Str × A)} {mem m' : List (Option M)} (h1 : (run g n).ex cx σ e = .ok (.val v) σ₁) (hp : placeOf g cx σ₁ o = some (y, i, m)) (h2 : (run g n).ex cx σ₁ ix = .ok (.val (.str k)) ⟨loc, mem⟩)
    (hm : mem[i]? = some (some (.dct ks vs))) (hz : Nat.ble ks.length 1000 = true) (hs : mem.set i (some (.dct (putV ks vs (.str k) v).1 (putV ks vs (.str k) v).2)) = m') : stStep g (run g n) cx σ (.Assign [.Subscript o ix p] e q) = .ok .nxt ⟨loc, m'⟩ := by
  subst hs
  exact nX (bV h1 (oB hp (bV h2 (oB (at_of hm) (oB (a := .dct (putV ks vs (.str k) v).1 (putV ks vs (.str k) v).2) (by show cond _ _ _ = _; rw [hz]; rfl) rfl)))))
theorem st_extend {y : Str} {i : Nat} {xs xs' ys : List V} {apos : Pos} {loc : List (Str × A)} {mem m' : List (Option M)} (hm : mtOf nm = some .extend) (hp : placeOf g cx σ o = some (y, i, .lst xs)) (hk : methOk o [e] apos p = true) (hs : starred e = false) (h : (run g n).ex cx σ e = .ok (.val (.list ys)) ⟨loc, mem⟩)
    (hi : mem[i]? = some (some (.lst xs'))) (hl : Nat.ble (xs'.length + ys.length) lim = true) (hs' : mem.set i (some (.lst (xs' ++ ys))) = m') : stStep g (run g n) cx σ (.Expr (.Call (.Attribute o nm apos) [e] [] p) q) = .ok .nxt ⟨loc, m'⟩ := by
  subst hs'
  exact nX (oB (a := ((o, nm, apos), e, p)) rfl (oB (lst_of hp) (cN (by rw [hk, hs]; rfl) (bV h (oB (at_lst hi) (oB (a := xs' ++ ys) (by show (mtOf nm).bind _ = _; rw [hm]; exact cT hl rfl) rfl))))))
theorem st_if {c : Bool} {b₁ b₂ : List Stmt} (h1 : (run g n).tr cx σ t = .ok c σ₁) (h2 : c = true → (run g n).sts cx σ₁ b₁ = .ok f σ₂) (h3 : c = false → (run g n).sts cx σ₁ b₂ = .ok f σ₂) : stStep g (run g n) cx σ (.If t b₁ b₂ p) = .ok f σ₂ := by
  show noX (((run g n).tr cx σ t).bind fun c σ₁ => match c with | true => (run g n).sts cx σ₁ b₁ | false => (run g n).sts cx σ₁ b₂) = _
  rw [h1]; dsimp only [Out.bind]
  cases c with
  | true => dsimp only; rw [h2 rfl]; rfl
  | false => dsimp only; rw [h3 rfl]; rfl
theorem st_ifT {c : Bool} {b₁ b₂ : List Stmt} (h1 : (run g n).tr cx σ t = .ok c σ₁) (hc : c = true) (h2 : (run g n).sts cx σ₁ b₁ = .ok f σ₂) : stStep g (run g n) cx σ (.If t b₁ b₂ p) = .ok f σ₂ :=
  st_if h1 (fun _ => h2) fun h => by rw [hc] at h; cases h
theorem st_ifF {c : Bool} {b₁ b₂ : List Stmt} (h1 : (run g n).tr cx σ t = .ok c σ₁) (hc : c = false) (h2 : (run g n).sts cx σ₁ b₂ = .ok f σ₂) : stStep g (run g n) cx σ (.If t b₁ b₂ p) = .ok f σ₂ :=
  st_if h1 (fun h => by rw [hc] at h; cases h) fun _ => h2
theorem st_for {b₁ b₂ : List Stmt} {i : Expr} {xs : List V} (h1 : src g (run g n) cx σ t i = .ok xs σ₁) (h2 : forGo (run g n) cx t b₁ b₂ σ₁ xs = .ok f σ₂) : stStep g (run g n) cx σ (.For t i b₁ b₂ p) = .ok f σ₂ := nX (bB h1 h2)
theorem for_cons {b₁ b₂ : List Stmt} {vs : List V} (h1 : assign cx σ t v = .ok () σ₁) (h2 : (run g n).sts cx σ₁ b₁ = .ok .nxt σ₂) (h3 : forGo (run g n) cx t b₁ b₂ σ₂ vs = .ok f σ₃) : forGo (run g n) cx t b₁ b₂ σ (v :: vs) = .ok f σ₃ := bB h1 (bB h2 h3)
theorem for_ret {b₁ b₂ : List Stmt} {vs : List V} (h1 : assign cx σ t v = .ok () σ₁) (h2 : (run g n).sts cx σ₁ b₁ = .ok (.ret u) σ₂) : forGo (run g n) cx t b₁ b₂ σ (v :: vs) = .ok (.ret u) σ₂ := bB h1 (bB h2 rfl)
theorem st_while {b₁ : List Stmt} (h : whileGo (run g n) cx t b₁ 100 σ = .ok f σ₁) : stStep g (run g n) cx σ (.While t b₁ [] p) = .ok f σ₁ := h
theorem st_whileX {b₁ : List Stmt} (h : whileGo (run g n) cx t b₁ 100 σ = .exc σ₁) : stStep g (run g n) cx σ (.While t b₁ [] p) = .exc σ₁ := h
theorem while_stop {b₁ : List Stmt} {k : Nat} (h1 : (run g n).tr cx σ t = .ok false σ₁) : whileGo (run g n) cx t b₁ (k + 1) σ = .ok .nxt σ₁ := bB (nX h1) rfl
theorem while_go {b₁ : List Stmt} {k : Nat} (h1 : (run g n).tr cx σ t = .ok true σ₁) (h2 : (run g n).sts cx σ₁ b₁ = .ok .nxt σ₂) (h3 : whileGo (run g n) cx t b₁ k σ₂ = .ok f σ₃) : whileGo (run g n) cx t b₁ (k + 1) σ = .ok f σ₃ := bB (nX h1) (bB h2 h3)
theorem while_goX {b₁ : List Stmt} {k : Nat} (h1 : (run g n).tr cx σ t = .ok true σ₁) (h2 : (run g n).sts cx σ₁ b₁ = .ok .nxt σ₂) (h3 : whileGo (run g n) cx t b₁ k σ₂ = .exc σ₃) : whileGo (run g n) cx t b₁ (k + 1) σ = .exc σ₃ := bB (nX h1) (bB h2 h3)
theorem while_raise {b₁ : List Stmt} {k : Nat} (h1 : (run g n).tr cx σ t = .ok true σ₁) (h2 : (run g n).sts cx σ₁ b₁ = .exc σ₂) : whileGo (run g n) cx t b₁ (k + 1) σ = .exc σ₂ := bB (nX h1) (bX h2)
theorem st_assert (h : (run g n).tr cx σ t = .ok true σ₁) : stStep g (run g n) cx σ (.Assert t none p) = .ok .nxt σ₁ := nX (bB h rfl)
theorem st_del {y : Str} {j : Nat} {m₀ m m' : M} {i : Expr} {p' : Pos} {loc : List (Str × A)} {mem mm : List (Option M)} (hp : placeOf g cx σ o = some (y, j, m₀)) (h : (run g n).ex cx σ i = .ok (.val v) ⟨loc, mem⟩) (hm : mem[j]? = some (some m)) (hd : delIx m v = some m') (hs' : mem.set j (some m') = mm) :
    stStep g (run g n) cx σ (.Delete [.Subscript o i p] p') = .ok .nxt ⟨loc, mm⟩ := by
  subst hs'
  exact nX (oB (a := (o, i)) rfl (oB hp (bV h (oB (at_of hm) (oB hd rfl)))))
theorem st_aug {op} (ho : augOk op = true) (hk : (isLocK (lkN cx.scope.names x) || isCellK (lkN cx.scope.names x)) = true) (hr : readRaw g cx σ x = some (.val u)) (h : (run g n).ex cx σ e = .ok (.val v) σ₁) (hu : isListV u = false) (hb : binop op u v = some w)
    (hw : writeName cx σ₁ x (.val w) = some σ₂) : stStep g (run g n) cx σ (.AugAssign (.Name x p) op e q) = .ok .nxt σ₂ := cN ho (cN hk (oB (val_of hr) (bV h (cF hu (oB hb (bB (a := ()) (oB hw rfl) rfl))))))
theorem st_augI {op} {y : Str} {j : Nat} {i : Expr} {m₀ : List V} {xs ys : List V} {iv : V} {k : Int} {m' : M} {loc : List (Str × A)} {mem mm : List (Option M)} (ho : augOk op = true) (hi : isSlice i = false) (hp : placeOf g cx σ o = some (y, j, .lst m₀)) (h1 : (run g n).ex cx σ i = .ok (.val iv) σ₁) (hm : σ₁.mem[j]? = some (some (.lst xs)))
    (hg : getIx (.list xs) iv = some (.int k)) (h2 : (run g n).ex cx σ₁ e = .ok (.val v) ⟨loc, mem⟩) (hm2 : mem[j]? = some (some (.lst ys))) (hb : binop op (.int k) v = some w) (hx : setIx (.lst ys) iv w = some m') (hs' : mem.set j (some m') = mm) :
    stStep g (run g n) cx σ (.AugAssign (.Subscript o i p) op e q) = .ok .nxt ⟨loc, mm⟩ := by
  subst hs'
  exact cN ho (cF hi (nX (oB (lst_of hp) (bV h1 (oB (at_lst hm) (oB (a := k) (by rw [hg]; rfl) (bV h2 (oB (at_lst hm2) (oB hb (oB hx rfl))))))))))
section
variable {c d : Bool} {τ₁ τ₂ ρ₁ ρ₂ : S}
theorem st_ifm {b₁ : List Stmt} (h1 : (run g n).tr cx σ t = .ok c σ₁) (h2 : c = true → (run g n).sts cx σ₁ b₁ = .ok (.ret u) σ₂) (h3 : (run g n).sts cx σ₁ [] = .ok .nxt σ₁) : stStep g (run g n) cx σ (.If t b₁ [] p) = .ok (cond c (.ret u) .nxt) (cond c σ₂ σ₁) := by
  cases c with
  | true => exact st_ifT h1 rfl (h2 rfl)
  | false => exact st_ifF h1 rfl h3
theorem sts_m (h1 : stStep g (run g n) cx σ s = .ok (cond c (.ret u) .nxt) (cond c τ₁ τ₂)) (h2 : c = false → stsStep g (run g n) cx τ₂ ss = .ok .nxt σ₂) : stsStep g (run g n) cx σ (s :: ss) = .ok (cond c (.ret u) .nxt) (cond c τ₁ σ₂) := by
  cases c with
  | true => exact sts_ret h1
  | false => exact sts_cons h1 (h2 rfl)
theorem sts_mr (h1 : stStep g (run g n) cx σ s = .ok (cond c (.ret u) .nxt) (cond c τ₁ τ₂)) (h2 : c = false → stsStep g (run g n) cx τ₂ ss = .ok (.ret v) σ₂) : stsStep g (run g n) cx σ (s :: ss) = .ok (.ret (cond c u v)) (cond c τ₁ σ₂) := by
  cases c with
  | true => exact sts_ret h1
  | false => exact sts_cons h1 (h2 rfl)
theorem for_m {b₁ : List Stmt} {vs : List V} (h1 : assign cx σ t v = .ok () σ₁) (h2 : (run g n).sts cx σ₁ b₁ = .ok (cond c (.ret u) .nxt) (cond c τ₁ τ₂)) (h3 : c = false → forGo (run g n) cx t b₁ [] τ₂ vs = .ok (cond d (.ret u) .nxt) (cond d ρ₁ ρ₂)) :
    forGo (run g n) cx t b₁ [] σ (v :: vs) = .ok (cond (c || d) (.ret u) .nxt) (cond (c || d) (cond c τ₁ ρ₁) ρ₂) := by
  cases c with
  | true => exact for_ret h1 h2
  | false => exact for_cons h1 h2 (h3 rfl)
theorem for_nilm {b₁ : List Stmt} : forGo (run g (n + 1)) cx t b₁ [] σ [] = .ok (cond false (.ret u) .nxt) (cond false σ σ) := rfl
end
section
variable {ps : List Str} {body : List Stmt} {scope : Scope} {as : List A} {mem m m' : List (Option M)} {l l' : List (Str × A)} {fl : Fl}
theorem call_ok (hf : g.fns nm = some ⟨ps, body, scope⟩) (hl : Nat.beq ps.length as.length = true) (hb : bindLoc scope ps as = l) (hc : mem ++ bindCells scope ps as = m) {j : Nat} (hj : mem.length = j) {σl : List (Str × A)} {σm : List (Option M)}
    (h : stsStep g (run g n) ⟨scope, (cellNames scope.names).zipIdx j⟩ ⟨l, m⟩ body = .ok fl ⟨σl, σm⟩) (hr : retOf fl = some v)
    (ht : σm.take j = m') (hk : closed j m' = true) : (run g (n + 1 + 1)).call mem nm as = .ok v ⟨[], m'⟩ := by
  subst hb; subst hc; subst hj; subst ht
  refine oB hf (cT hl ?_)
  show ending mem.length retOf (stsStep g (run g n) _ _ body) = _
  rw [h]
  exact oB hr (cT hk rfl)
theorem call_r (hf : g.fns nm = some ⟨ps, body, scope⟩) (hl : Nat.beq ps.length as.length = true) (hb : bindLoc scope ps as = l) (hc : bindCells scope ps as = m)
    (h : stsStep g (run g n) ⟨scope, (cellNames scope.names).zipIdx 0⟩ ⟨l, m⟩ body = .ok (.ret v) σ) : (run g (n + 1 + 1)).call [] nm as = .ok v ⟨[], []⟩ :=
  by obtain ⟨σl, σm⟩ := σ; exact call_ok (mem := []) hf hl hb hc rfl h rfl (by simp) rfl
theorem call_exc (hf : g.fns nm = some ⟨ps, body, scope⟩) (hl : Nat.beq ps.length as.length = true) (hb : bindLoc scope ps as = l) (hc : mem ++ bindCells scope ps as = m) {j : Nat} (hj : mem.length = j) {σl : List (Str × A)} {σm : List (Option M)}
    (h : stsStep g (run g n) ⟨scope, (cellNames scope.names).zipIdx j⟩ ⟨l, m⟩ body = .exc ⟨σl, σm⟩)
    (ht : σm.take j = m') (hk : closed j m' = true) : (run g (n + 1 + 1)).call mem nm as = .exc ⟨[], m'⟩ := by
  subst hb; subst hc; subst hj; subst ht
  refine oB hf (cT hl ?_)
  show ending mem.length retOf (stsStep g (run g n) _ _ body) = _
  rw [h]
  exact cT hk rfl
end
end
end

section
open PySem
set_option backward.match.sparseCases false
noncomputable def n_ISTERMINAL : Str := ⟨#[73, 83, 84, 69, 82, 77, 73, 78, 65, 76]⟩
noncomputable def n_ISEOF : Str := ⟨#[73, 83, 69, 79, 70]⟩
noncomputable def n_pretty_flags : Str := ⟨#[112, 114, 101, 116, 116, 121, 95, 102, 108, 97, 103, 115]⟩
noncomputable def n_parse_varint : Str := ⟨#[95, 112, 97, 114, 115, 101, 95, 118, 97, 114, 105, 110, 116]⟩
noncomputable def n_ellipsis_match : Str := ⟨#[95, 101, 108, 108, 105, 112, 115, 105, 115, 95, 109, 97, 116, 99, 104]⟩
noncomputable def n_law_drawn : Str := ⟨#[95, 108, 97, 119, 95, 100, 114, 97, 119, 110]⟩
noncomputable def n_law_trip : Str := ⟨#[95, 108, 97, 119, 95, 116, 114, 105, 112]⟩
noncomputable def n_law_octets : Str := ⟨#[95, 108, 97, 119, 95, 111, 99, 116, 101, 116, 115]⟩
noncomputable def n_law_tape : Str := ⟨#[95, 108, 97, 119, 95, 116, 97, 112, 101]⟩
noncomputable def n_law_read : Str := ⟨#[95, 108, 97, 119, 95, 114, 101, 97, 100]⟩
noncomputable def n_law_named : Str := ⟨#[95, 108, 97, 119, 95, 110, 97, 109, 101, 100]⟩
noncomputable def n_law : Str := ⟨#[108, 97, 119]⟩
noncomputable def n_law_ways : Str := ⟨#[95, 108, 97, 119, 95, 119, 97, 121, 115]⟩
noncomputable def n_law_rows : Str := ⟨#[95, 108, 97, 119, 95, 114, 111, 119, 115]⟩
noncomputable def n_law_even : Str := ⟨#[95, 108, 97, 119, 95, 101, 118, 101, 110]⟩
noncomputable def n_law_rings : Str := ⟨#[95, 108, 97, 119, 95, 114, 105, 110, 103, 115]⟩
noncomputable def n_law_sets : Str := ⟨#[95, 108, 97, 119, 95, 115, 101, 116, 115]⟩
end

section
open PySem
set_option backward.match.sparseCases false
set_option maxRecDepth 100000
theorem ok_eq {α : Type} {o : Out α} {a b : α} {σ : S} (h : o = .ok a σ) (e : a = b) : o = .ok b σ := e ▸ h
theorem gb {k m : Nat} (h : k ≤ m) (hm : Nat.ble m lim = true) : Nat.ble k lim = true := Nat.ble_eq_true_of_le (Nat.le_trans h (Nat.le_of_ble_eq_true hm))
theorem gb2 {a b c d : Nat} (h1 : a ≤ c) (h2 : b ≤ d) (hm : Nat.ble (c + d) lim = true) : Nat.ble (a + b) lim = true := Nat.ble_eq_true_of_le (Nat.le_trans (Nat.add_le_add h1 h2) (Nat.le_of_ble_eq_true hm))
theorem app_len (x y : Str) : (x ++ y).length = x.length + y.length := by
  show (x.cps ++ y.cps).size = _
  simp [Str.length]
theorem gl_app {x y : Str} {a b : Nat} (h1 : x.length ≤ a) (h2 : y.length ≤ b) : (x ++ y).length ≤ a + b := by rw [app_len]; exact Nat.add_le_add h1 h2
theorem gl_one {c : Nat} : Str.length ⟨#[c]⟩ ≤ 1 := Nat.le_refl _
theorem bo_adds {x y : Str} (h : Nat.ble (x.length + y.length) lim = true) : binop .Add (.str x) (.str y) = some (.str (x ++ y)) := by
  show cond (Nat.ble (x.length + y.length) lim) _ _ = _
  rw [h]; rfl
section
variable {g : Gl} {n : Nat} {cx : Cx} {σ σ₁ σ₂ : S} {u v w : V} {e o : Expr} {es : List Expr} {p q : Pos} {nm : Str}
theorem F_list {vs : List V} (h : exVs (run g n) cx σ es = .ok vs σ₁) (hl : Nat.ble vs.length lim = true) : exF (run g n) cx σ (.List es p) = .ok (.lst vs) σ₁ := by
  show (exVs (run g n) cx σ es).bind (fun vs σ₁ => cond (Nat.ble vs.length lim) (.ok (M.lst vs) σ₁) .bad) = _
  rw [h]; dsimp only [Out.bind]; rw [hl]; rfl
theorem F_rep {k : Nat} {i : Int} {r : Expr} {ys : List V} (h : exVs (run g n) cx σ [e] = .ok [v] σ₁) (h2 : (run g n).ex cx σ₁ r = .ok (.val (.int i)) σ₂) (hi : i = (k : Int)) (hk : Nat.ble k 1000 = true) (hy : List.replicate k v = ys) : exF (run g n) cx σ (.BinOp (.List [e] p) .Mult r q) = .ok (.lst ys) σ₂ := by
  subst hi; subst hy
  show (exVs (run g n) cx σ [e]).bind (fun vs σ₁ => ((run g n).ex cx σ₁ r).bindV fun k σ₂ => Out.of (repOf vs k) σ₂) = _
  exact bB h (bV h2 (oF (cT hk rfl)))
theorem rp_0 : List.replicate 0 v = [] := rfl
theorem rp_s {k : Nat} {ys : List V} (h : List.replicate k v = ys) : List.replicate (k + 1) v = v :: ys := by rw [List.replicate_succ, h]
theorem F_split {s y : Str} {apos : Pos} (hm : mtOf nm = some .split) (hk : methOk o [e] apos q = true) (h1 : (run g n).ex cx σ o = .ok (.val (.str s)) σ₁) (h2 : exVs (run g n) cx σ₁ [e] = .ok [.str y] σ₂) (hl : (Nat.ble s.length lim && !Nat.beq y.length 0) = true) :
    exF (run g n) cx σ (.Call (.Attribute o nm apos) [e] [] q) = .ok (.lst ((Txt.split s y).map V.str)) σ₂ := by
  refine oB (a := ((o, nm, apos), e)) ?_ (cN hk (bV h1 (bB h2 (oF (cT hl rfl)))))
  show (mtOf nm).bind _ = _
  rw [hm]; rfl
theorem F_split2 {s y : Str} {apos : Pos} {ts : List Str} (hm : mtOf nm = some .split) (hk : methOk o [e] apos q = true) (h1 : (run g n).ex cx σ o = .ok (.val (.str s)) σ₁) (h2 : exVs (run g n) cx σ₁ [e] = .ok [.str y] σ₂) (hl : (Nat.ble s.length lim && !Nat.beq y.length 0) = true) (hs : Txt.split s y = ts) :
    exF (run g n) cx σ (.Call (.Attribute o nm apos) [e] [] q) = .ok (.lst (ts.map V.str)) σ₂ := hs ▸ F_split hm hk h1 h2 hl
theorem bf_lens {x : Str} (h : Nat.ble x.length lim = true) : bfun .len (.str x) = some (.int x.length) := by
  show cond (Nat.ble x.length lim) _ _ = _
  rw [h]; rfl
theorem bo_modn {a b : Int} {d m : Nat} (ha : a = (d : Int)) (hb : b = (m : Int)) (hm : Nat.beq m 0 = false) : binop .Mod (.int a) (.int b) = some (.int ((d % m : Nat) : Int)) := by
  subst ha; subst hb
  show cond (Nat.beq ((m : Int)).natAbs 0) none (some (V.int ((d : Int).fmod (m : Int)))) = _
  rw [Int.natAbs_natCast, hm, Int.fmod_eq_emod_of_nonneg _ (Int.natCast_nonneg _)]
  simp
theorem bo_divn {a b : Int} {d m : Nat} (ha : a = (d : Int)) (hb : b = (m : Int)) (hm : (Nat.beq m 0 || !Nat.blt m 1000000) = false) : binop .FloorDiv (.int a) (.int b) = some (.int ((d / m : Nat) : Int)) := by
  subst ha; subst hb
  show cond (Nat.beq ((m : Int)).natAbs 0 || !Nat.blt ((m : Int)).natAbs 1000000) none (some (V.int ((d : Int).fdiv (m : Int)))) = _
  rw [Int.natAbs_natCast, hm, Int.fdiv_eq_ediv_of_nonneg _ (Int.natCast_nonneg _)]
  simp
theorem bo_addn {a b : Int} {d m : Nat} (ha : a = (d : Int)) (hb : b = (m : Int)) : binop .Add (.int a) (.int b) = some (.int ((d + m : Nat) : Int)) := by
  subst ha; subst hb
  show some (V.int ((d : Int) + (m : Int))) = _
  simp
theorem bo_pow2 {a b : Int} {m : Nat} (ha : a = 2) (hb : b = (m : Int)) (hm : m ≤ 1000) : binop .Pow (.int a) (.int b) = some (.int ((2 ^ m : Nat) : Int)) := by
  subst ha; subst hb
  show cond (smallI 2 && Nat.ble m 1000) (some (V.int ((2 : Int) ^ m))) none = _
  rw [Nat.ble_eq_true_of_le hm]
  simp [smallI]
  rfl
theorem bo_muln {a b : Int} {d m : Nat} (ha : a = (d : Int)) (hb : b = (m : Int)) (hm : (Nat.ble d 9223372036854775807 || Nat.ble m 9223372036854775807) = true) : binop .Mult (.int a) (.int b) = some (.int ((d * m : Nat) : Int)) := by
  subst ha; subst hb
  show cond (smallI (d : Int) || smallI (m : Int)) (some (V.int ((d : Int) * (m : Int)))) none = _
  unfold smallI
  rw [Int.natAbs_natCast, Int.natAbs_natCast, hm]
  simp
theorem gi_n {xs : List V} {i : Int} {k : Nat} {v : V} (hi : i = (k : Int)) (hk : Nat.ble k 1000000 = true) (h : xs[k]? = some v) : getIx (.list xs) (.int i) = some v := by
  subst hi
  show cond (Nat.ble k 1000000) _ _ = _
  rw [hk]; exact h
theorem pick_plain {xs : List V} {lo hi : Option Int} {a b : Nat} (e : sliceBounds lo hi none xs.length = ((a : Int), (b : Int), 1)) (hab : a ≤ b) (hb : b ≤ xs.length) : pickL xs lo hi none = (xs.drop a).take (b - a) := by
  unfold pickL
  rw [e]
  dsimp only
  unfold sliceRange
  simp only [show (1 : Int) > 0 by decide, if_true]
  have ec : (if (a : Int) < (b : Int) then ((b : Int) - a + 1 - 1) / 1 else 0).toNat = b - a := by split <;> (try rw [Int.ediv_one]) <;> omega
  rw [ec, List.filterMap_map]
  apply List.ext_getElem?
  intro i
  have : (List.filterMap ((fun x => xs[x]?) ∘ fun (k : Nat) => ((a : Int) + 1 * (k : Int)).toNat) (List.range (b - a))) = (List.range (b - a)).map fun k => (xs[a + k]?).getD .none := by
    rw [← List.filterMap_eq_map]
    have gen : ∀ (ks : List Nat) (f g : Nat → Option V), (∀ k ∈ ks, f k = g k) → ks.filterMap f = ks.filterMap g := by
      intro ks f g h
      induction ks with
      | nil => rfl
      | cons a r ih => rw [List.filterMap_cons, List.filterMap_cons, h a (List.mem_cons_self ..), ih fun k hk => h k (List.mem_cons_of_mem _ hk)]
    apply gen
    intro k hk
    have hk := List.mem_range.mp hk
    simp only [Function.comp]
    rw [show ((a : Int) + 1 * (k : Int)).toNat = a + k by omega, List.getElem?_eq_getElem (by omega)]
    rfl
  rw [this, List.getElem?_map]
  by_cases hi : i < b - a
  · rw [List.getElem?_range hi, List.getElem?_take_of_lt hi, List.getElem?_drop]
    simp only [Option.map_some]
    rw [List.getElem?_eq_getElem (by omega)]
    rfl
  · rw [List.getElem?_eq_none (by simp; omega), List.getElem?_eq_none (by simp; omega)]
    rfl
theorem pick_from {xs ys : List V} {i : Int} {a : Nat} (hi : i = (a : Int)) (ha : Nat.ble a xs.length = true) (hy : xs.drop a = ys) : pickL xs (some i) none none = ys := by
  subst hi
  have ha := Nat.le_of_ble_eq_true ha
  rw [pick_plain (a := a) (b := xs.length) ?_ ha (Nat.le_refl _), ← hy]
  · exact List.take_of_length_le (by simp)
  · simp only [sliceBounds, Option.getD_none, show (1 : Int) > 0 by decide, if_true]
    rw [if_neg (by omega), show max (0 : Int) (min (a : Int) (xs.length : Int)) = a by omega]
theorem pick_to {xs ys : List V} {i : Int} {b : Nat} (hi : i = (b : Int)) (hb : b ≤ xs.length) (hy : xs.take b = ys) : pickL xs none (some i) none = ys := by
  subst hi
  rw [pick_plain (a := 0) (b := b) ?_ (Nat.zero_le _) hb, ← hy]
  · simp
  · simp only [sliceBounds, Option.getD_none, show (1 : Int) > 0 by decide, if_true]
    rw [if_neg (by omega), show max (0 : Int) (min (b : Int) (xs.length : Int)) = b by omega]
    rfl
section
variable {g : Gl} {n : Nat} {cx : Cx} {σ σ₁ σ₂ σ₃ : S} {u v w : V} {e t : Expr}
end
theorem pick_tom {f : Nat → V} {w : List Nat} {j : Int} {b : Nat} (hj : j = (b : Int)) (hb : b ≤ w.length) : pickL (w.map f) none (some j) none = (w.take b).map f :=
  pick_to hj (by rw [List.length_map]; exact hb) (by rw [List.map_take])
theorem pick_fromm {f : Nat → V} {w : List Nat} {i : Int} {a : Nat} (hi : i = (a : Int)) (ha : a ≤ w.length) : pickL (w.map f) (some i) none none = (w.drop a).map f :=
  pick_from hi (Nat.ble_eq_true_of_le (by rw [List.length_map]; exact ha)) (by rw [List.map_drop])
theorem pick_all {xs : List V} {i : Int} {b : Nat} (hi : i = (b : Int)) (hb : xs.length ≤ b) : pickL xs none (some i) none = xs := by
  subst hi
  rw [pick_plain (a := 0) (b := xs.length) ?_ (Nat.zero_le _) (Nat.le_refl _)]
  · simp
  · simp only [sliceBounds, Option.getD_none, show (1 : Int) > 0 by decide, if_true]
    rw [if_neg (by omega), show max (0 : Int) (min (b : Int) (xs.length : Int)) = xs.length by omega]
    rfl
noncomputable def pickG {α : Type} (xs : List α) (lo hi st : Option Int) : List α :=
  (sliceRange (sliceBounds lo hi st xs.length).1 (sliceBounds lo hi st xs.length).2.1 (sliceBounds lo hi st xs.length).2.2).filterMap (xs[·]?)
theorem pick_map {α : Type} (f : α → V) (xs : List α) (lo hi st : Option Int) : pickL (xs.map f) lo hi st = (pickG xs lo hi st).map f := by
  unfold pickL pickG
  rw [List.length_map, List.map_filterMap]
  congr 1
  funext k
  rw [List.getElem?_map]
theorem pick_rev {α : Type} (xs : List α) : pickG xs none none (some (-1)) = xs.reverse := by
  unfold pickG sliceBounds
  simp only [Option.getD_some, show ¬ ((-1 : Int) > 0) by decide, if_false]
  unfold sliceRange
  simp only [show ¬ ((-1 : Int) > 0) by decide, if_false, show - (-1 : Int) = 1 by decide, Int.ediv_one]
  have e : (if (xs.length : Int) - 1 > -1 then (xs.length : Int) - 1 - -1 - -1 - 1 else 0).toNat = xs.length := by split <;> omega
  rw [e]
  cases xs with
  | nil => rfl
  | cons x0 r =>
  generalize hx : x0 :: r = xs
  apply List.ext_getElem?
  intro i
  rw [List.filterMap_map]
  have : (List.filterMap ((fun x => xs[x]?) ∘ fun (k : Nat) => ((xs.length : Int) - 1 + -1 * (k : Int)).toNat) (List.range xs.length)) = (List.range xs.length).map fun k => (xs[xs.length - 1 - k]?).getD x0 := by
    rw [← List.filterMap_eq_map]
    have gen : ∀ (ks : List Nat) (f g : Nat → Option α), (∀ k ∈ ks, f k = g k) → ks.filterMap f = ks.filterMap g := by
      intro ks f g h
      induction ks with
      | nil => rfl
      | cons a r ih => rw [List.filterMap_cons, List.filterMap_cons, h a (List.mem_cons_self ..), ih fun k hk => h k (List.mem_cons_of_mem _ hk)]
    apply gen
    intro k hk
    have hk := List.mem_range.mp hk
    simp only [Function.comp]
    rw [show ((xs.length : Int) - 1 + -1 * (k : Int)).toNat = xs.length - 1 - k by omega, List.getElem?_eq_getElem (by omega)]
    rfl
  rw [this, List.getElem?_map]
  by_cases hi : i < xs.length
  · rw [List.getElem?_range hi, List.getElem?_reverse hi]
    simp only [Option.map_some]
    rw [List.getElem?_eq_getElem (by omega)]
    rfl
  · rw [List.getElem?_eq_none (by simp; omega), List.getElem?_eq_none (by simp; omega)]
    rfl
theorem gl_appl {α : Type} {x y : List α} {a b : Nat} (h1 : x.length ≤ a) (h2 : y.length ≤ b) : (x ++ y).length ≤ a + b := by rw [List.length_append]; exact Nat.add_le_add h1 h2
theorem gl_map {α β : Type} {f : α → β} {l : List α} {k : Nat} (h : l.length ≤ k) : (l.map f).length ≤ k := by rw [List.length_map]; exact h
theorem gl_consl {α : Type} {x : α} {l : List α} {k : Nat} (h : l.length ≤ k) : (x :: l).length ≤ k + 1 := Nat.succ_le_succ h
theorem gl_sing {α : Type} {x : α} : [x].length ≤ 1 := Nat.le_refl 1
theorem bitAnd_nat (a b : Nat) : Builtin.bitAnd (a : Int) (b : Int) = ((a &&& b : Nat) : Int) := rfl
theorem bitOr_nat (a b : Nat) : Builtin.bitOr (a : Int) (b : Int) = ((a ||| b : Nat) : Int) := by
  unfold Builtin.bitOr
  have h1 : ∀ x : Nat, decide (0 ≤ Builtin.bitNot (x : Int)) = false := fun x => decide_eq_false (by unfold Builtin.bitNot; omega)
  have h2 : ∀ x : Nat, (Builtin.bitNot (Builtin.bitNot (x : Int))).toNat = x := fun x => by unfold Builtin.bitNot; omega
  unfold Builtin.bitAnd
  rw [h1, h1]
  dsimp only
  rw [h2, h2]
  unfold Builtin.bitNot
  omega
theorem bo_andn {a b : Int} {d m : Nat} (ha : a = (d : Int)) (hb : b = (m : Int)) : binop .BitAnd (.int a) (.int b) = some (.int ((d &&& m : Nat) : Int)) := by subst ha; subst hb; rfl
theorem bo_orn {a b : Int} {d m : Nat} (ha : a = (d : Int)) (hb : b = (m : Int)) : binop .BitOr (.int a) (.int b) = some (.int ((d ||| m : Nat) : Int)) := by
  subst ha; subst hb
  show some (V.int (Builtin.bitOr (d : Int) (m : Int))) = _
  rw [bitOr_nat]
theorem bo_shl {a b : Int} {d m : Nat} (ha : a = (d : Int)) (hb : b = (m : Int)) (hd : d ≤ 9223372036854775807) (hm : Nat.ble m 1000 = true) : binop .LShift (.int a) (.int b) = some (.int ((d * 2 ^ m : Nat) : Int)) := by
  subst ha; subst hb
  show cond (smallI (d : Int) && Nat.ble m 1000) (some (V.int ((d : Int) * 2 ^ m))) none = _
  unfold smallI
  rw [Int.natAbs_natCast, hm, Nat.ble_eq_true_of_le hd]
  simp
theorem tr_int {i : Int} {k : Nat} (hi : i = (k : Int)) : truth (.int i) = some (!Nat.beq k 0) := by
  subst hi
  show some (!Nat.beq ((k : Int)).natAbs 0) = _
  rw [Int.natAbs_natCast]
theorem bo_modc {x y : Int} (hy : y.natAbs ≠ 0) : binop .Mod (.int x) (.int y) = some (.int (x.fmod y)) := by
  show cond (Nat.beq y.natAbs 0) none (some (V.int (x.fmod y))) = _
  cases h : Nat.beq y.natAbs 0 with
  | true => exact absurd (Nat.eq_of_beq_eq_true h) hy
  | false => rfl
noncomputable abbrev nV (d : Nat) : V := .int (d : Int)
theorem intsOf_nV : ∀ l : List Nat, intsOf (l.map nV) = some (l.map fun (d : Nat) => (d : Int))
  | [] => rfl
  | d :: l => by
    show (intsOf (l.map nV)).map _ = _
    rw [intsOf_nV l]; rfl
theorem bf_sum {xs : List V} {l : List Int} (h : intsOf xs = some l) : bfun .sum (.list xs) = some (.int l.sum) := by
  show (match intsOf xs with | some is => some (V.int is.sum) | none => none) = _
  rw [h]
theorem ex_itemX {i : Expr} (hi : isSlice i = false) (hp : placeOf g cx σ o = none) (h1 : (run g n).ex cx σ o = .ok (.val u) σ₁) (h2 : (run g n).ex cx σ₁ i = .exc σ₂) : (run g (n + 1)).ex cx σ (.Subscript o i p) = .exc σ₂ := by
  show exSub g (run g n) cx σ o i = _
  rw [exSub_ix hi, exIx, hp]; exact (bV (nX h1) (bVX h2))
theorem st_try {c x y : Str} {body : List Stmt} {p₁ p₂ p₃ p₄ p₅ p₆ : Pos} {k} {σ₃ : S} (hr : readRaw g cx σ c = some (.val (.bf .stop))) (hb : (run g n).sts cx σ body = .exc σ₁) (hl : (isCellK (lkN cx.scope.names c) || isLocK (lkN cx.scope.names c)) = false)
    (hx : readName g cx σ₁ x = .ok (.val u) σ₂) (hy : readName g cx σ₂ y = .ok (.val v) σ₃) :
    stStep g (run g n) cx σ (.Try body [.ExceptHandler (some (.Name c p₁)) none [.Return (some (.Tuple [.Name x p₂, .Name y p₃] k p₄)) p₅] p₆] [] [] p) = .ok (.ret (.tup [u, v])) σ₃ := by
  have hc : (((readRaw g cx σ c).bind valOf).bind bfOf?).any isStopB = true := by rw [val_of hr]; rfl
  show tryGo g (run g n) cx σ body (c, x, y) = _
  refine cT hc ?_
  show onX ((run g n).sts cx σ body) _ = _
  rw [hb]
  exact cF hl (bV hx (bV hy rfl))
theorem sx_m {M : List Nat} {i y : Int} {k v : Nat} (hi : i = (k : Int)) (hv : y = (v : Int)) (hk : k < M.length) (hM : M.length ≤ 1000) : setIx (.lst (M.map nV)) (.int i) (.int y) = some (.lst ((M.set k v).map nV)) := by
  subst hi; subst hv
  show cond (Nat.blt k (M.map nV).length && Nat.ble (M.map nV).length lim) _ _ = _
  rw [List.length_map, show Nat.blt k M.length = true from Nat.ble_eq_true_of_le hk, show Nat.ble M.length lim = true from Nat.ble_eq_true_of_le (Nat.le_trans hM (by decide))]
  rw [List.map_set]; rfl
theorem at_w {w : List Nat} {i : Nat} (h : i < w.length) : (w.map nV)[i]? = some (.int ((w.getD i 0 : Nat) : Int)) := by
  rw [List.getElem?_map, List.getElem?_eq_getElem h, List.getD_eq_getElem?_getD, List.getElem?_eq_getElem h]; rfl
theorem rngn {n : Nat} (h : n ≤ 1000) : itemsOf (.range (n : Int)) = some ((List.range n).map nV) := by
  show cond (Nat.ble n 1000) (some (rangeV (Int.ofNat n))) none = _
  rw [Nat.ble_eq_true_of_le h]; rfl
theorem bf_range {i : Int} {n : Nat} (hi : i = (n : Int)) (h : n ≤ 1000) : bfun .range (.int i) = some (.range (n : Int)) := by
  subst hi
  show cond (Nat.ble n 1000) _ _ = _
  rw [Nat.ble_eq_true_of_le h]; rfl
theorem bo_addl {x y : List V} (h : Nat.ble (x.length + y.length) lim = true) : binop .Add (.list x) (.list y) = some (.list (x ++ y)) := by
  show cond (Nat.ble (x.length + y.length) lim) _ _ = _
  rw [h]; rfl
theorem me_join {s : Str} {xs : List V} {ts : List Str} (h1 : strsOf xs = some ts) (h2 : JoinOk s ts = true) : meth .join (.str s) [.list xs] = some (.str (Txt.join s ts)) := by
  show (match strsOf xs with | some ts => cond (JoinOk s ts) (some (V.str (Txt.join s ts))) none | none => none) = _
  rw [h1]
  exact cT h2 rfl
end
end

section
open PySem
set_option backward.match.sparseCases false
set_option maxRecDepth 100000
set_option linter.unusedVariables false
section
variable {g : Gl} {n : Nat} {cx : Cx} {σ σ' σ₁ σ₂ : S} {v : V} {t : Expr} {p : Pos} {s : Stmt} {ss b₁ b₂ : List Stmt} {P : S → Prop}
noncomputable def Ends (o : Out Fl) (v : V) : Prop := ∃ σ, o = .ok (.ret v) σ
noncomputable def Pass (o : Out Fl) (P : S → Prop) : Prop := ∃ σ, o = .ok .nxt σ ∧ P σ
theorem en_cons (h1 : stStep g (run g n) cx σ s = .ok .nxt σ₁) (h2 : Ends (stsStep g (run g n) cx σ₁ ss) v) : Ends (stsStep g (run g n) cx σ (s :: ss)) v := by
  obtain ⟨τ, h⟩ := h2
  exact ⟨τ, sts_cons h1 h⟩
theorem en_pass (h1 : Pass (stStep g (run g n) cx σ s) P) (h2 : ∀ σ₁, P σ₁ → Ends (stsStep g (run g n) cx σ₁ ss) v) : Ends (stsStep g (run g n) cx σ (s :: ss)) v := by
  obtain ⟨σ₁, h, hp⟩ := h1
  exact en_cons h (h2 σ₁ hp)
theorem en_ret (h1 : stStep g (run g n) cx σ s = .ok (.ret v) σ₁) : Ends (stsStep g (run g n) cx σ (s :: ss)) v := ⟨σ₁, sts_ret h1⟩
theorem ps_nil (h : P σ) : Pass (stsStep g (run g n) cx σ []) P := ⟨σ, rfl, h⟩
theorem ps_cons (h1 : stStep g (run g n) cx σ s = .ok .nxt σ₁) (h2 : Pass (stsStep g (run g n) cx σ₁ ss) P) : Pass (stsStep g (run g n) cx σ (s :: ss)) P := by
  obtain ⟨τ, h, hp⟩ := h2
  exact ⟨τ, sts_cons h1 h, hp⟩
theorem ps_pass {Q : S → Prop} (h1 : Pass (stStep g (run g n) cx σ s) Q) (h2 : ∀ σ₁, Q σ₁ → Pass (stsStep g (run g n) cx σ₁ ss) P) : Pass (stsStep g (run g n) cx σ (s :: ss)) P := by
  obtain ⟨σ₁, h, hp⟩ := h1
  exact ps_cons h (h2 σ₁ hp)
theorem ps_blk (h : Pass (stsStep g (run g n) cx σ ss) P) : Pass ((run g (n + 1)).sts cx σ ss) P := h
theorem ps_if {c : Bool} (h1 : (run g n).tr cx σ t = .ok c σ₁) (h2 : c = true → Pass ((run g n).sts cx σ₁ b₁) P) (h3 : c = false → Pass ((run g n).sts cx σ₁ b₂) P) : Pass (stStep g (run g n) cx σ (.If t b₁ b₂ p)) P := by
  cases c with
  | true => obtain ⟨τ, h, hp⟩ := h2 rfl; exact ⟨τ, st_ifT h1 rfl h, hp⟩
  | false => obtain ⟨τ, h, hp⟩ := h3 rfl; exact ⟨τ, st_ifF h1 rfl h, hp⟩
theorem ps_for {i : Expr} {xs : List V} (h1 : src g (run g n) cx σ t i = .ok xs σ₁) (h2 : Pass (forGo (run g n) cx t b₁ b₂ σ₁ xs) P) : Pass (stStep g (run g n) cx σ (.For t i b₁ b₂ p)) P := by
  obtain ⟨τ, h, hp⟩ := h2
  exact ⟨τ, st_for h1 h, hp⟩
theorem ps_mono {o : Out Fl} {P Q : S → Prop} (h : Pass o P) (k : ∀ σ, P σ → Q σ) : Pass o Q := by
  obtain ⟨σ, h1, h2⟩ := h
  exact ⟨σ, h1, k σ h2⟩
theorem pf_fold {α β : Type} (tov : β → V) (f : α → β → α) (ok : β → Prop) (I : α → S → Prop)
    (body : ∀ a b σ, I a σ → ok b → ∃ σ₁, assign cx σ t (tov b) = .ok () σ₁ ∧ Pass ((run g (n + 1)).sts cx σ₁ b₁) (I (f a b))) :
    ∀ (bs : List β) (a : α) (σ : S), (∀ b ∈ bs, ok b) → I a σ → Pass (forGo (run g (n + 1)) cx t b₁ [] σ (bs.map tov)) (I (bs.foldl f a))
  | [], a, σ, _, h => ⟨σ, rfl, h⟩
  | b :: bs, a, σ, hok, h => by
    obtain ⟨σ₁, h1, σ₂, h2, h3⟩ := body a b σ h (hok b (List.mem_cons_self ..))
    obtain ⟨τ, h4, h5⟩ := pf_fold tov f ok I body bs (f a b) σ₂ (fun b hb => hok b (List.mem_cons_of_mem _ hb)) h3
    exact ⟨τ, for_cons h1 h2 h4, h5⟩
theorem pf_fold2 {α β : Type} (tov : β → V) (f : α → β → α) (ok : β → Prop) (I : α → S → Prop) (J : α → β → S → Prop)
    (hA : ∀ a b σ, I a σ → ok b → ∃ σ₁, assign cx σ t (tov b) = .ok () σ₁ ∧ J a b σ₁)
    (hB : ∀ a b σ, J a b σ → ok b → Pass ((run g (n + 1)).sts cx σ b₁) (I (f a b)))
    (bs : List β) (a : α) (σ : S) (h : ∀ b ∈ bs, ok b) (hi : I a σ) : Pass (forGo (run g (n + 1)) cx t b₁ [] σ (bs.map tov)) (I (bs.foldl f a)) :=
  pf_fold tov f ok I (fun a b σ h hb => let ⟨σ₁, h1, h2⟩ := hA a b σ h hb; ⟨σ₁, h1, hB a b σ₁ h2 hb⟩) bs a σ h hi
theorem pf_foldN {α β : Type} (N : Nat) (tov : β → V) (f : α → β → α) (ok : β → Prop) (I : Nat → α → S → Prop)
    (body : ∀ i a b σ, i < N → I i a σ → ok b → ∃ σ₁, assign cx σ t (tov b) = .ok () σ₁ ∧ Pass ((run g (n + 1)).sts cx σ₁ b₁) (I (i + 1) (f a b))) :
    ∀ (bs : List β) (i : Nat) (a : α) (σ : S), bs.length + i ≤ N → (∀ b ∈ bs, ok b) → I i a σ → Pass (forGo (run g (n + 1)) cx t b₁ [] σ (bs.map tov)) (I (bs.length + i) (bs.foldl f a))
  | [], i, a, σ, _, _, h => ⟨σ, rfl, by simpa using h⟩
  | b :: bs, i, a, σ, hN, hok, h => by
    have hN' : bs.length + 1 + i ≤ N := hN
    obtain ⟨σ₁, h1, σ₂, h2, h3⟩ := body i a b σ (by omega) h (hok b (List.mem_cons_self ..))
    obtain ⟨τ, h4, h5⟩ := pf_foldN N tov f ok I body bs (i + 1) (f a b) σ₂ (by omega) (fun b hb => hok b (List.mem_cons_of_mem _ hb)) h3
    refine ⟨τ, for_cons h1 h2 h4, ?_⟩
    rw [show (b :: bs).length + i = bs.length + (i + 1) by rw [List.length_cons]; omega]
    exact h5
theorem pf_range {α : Type} (N : Nat) (tov : Nat → V) (f : α → Nat → α) (I : Nat → α → S → Prop)
    (body : ∀ i a σ, i < N → I i a σ → ∃ σ₁, assign cx σ t (tov i) = .ok () σ₁ ∧ Pass ((run g (n + 1)).sts cx σ₁ b₁) (I (i + 1) (f a i))) :
    ∀ (m i : Nat) (a : α) (σ : S), i + m ≤ N → I i a σ → Pass (forGo (run g (n + 1)) cx t b₁ [] σ ((List.range' i m).map tov)) (I (i + m) ((List.range' i m).foldl f a))
  | 0, i, a, σ, _, h => ⟨σ, rfl, h⟩
  | m + 1, i, a, σ, hN, h => by
    obtain ⟨σ₁, h1, σ₂, h2, h3⟩ := body i a σ (by omega) h
    obtain ⟨τ, h4, h5⟩ := pf_range N tov f I body m (i + 1) (f a i) σ₂ (by omega) h3
    refine ⟨τ, for_cons h1 h2 h4, ?_⟩
    rw [show i + (m + 1) = i + 1 + m by omega]
    exact h5
theorem pf_foldN2 {α β : Type} (N : Nat) (tov : β → V) (f : α → β → α) (ok : β → Prop) (I : Nat → α → S → Prop) (J : Nat → α → β → S → Prop)
    (hA : ∀ i a b σ, I i a σ → ok b → ∃ σ₁, assign cx σ t (tov b) = .ok () σ₁ ∧ J i a b σ₁)
    (hB : ∀ i a b σ, i < N → J i a b σ → ok b → Pass ((run g (n + 1)).sts cx σ b₁) (I (i + 1) (f a b)))
    (bs : List β) (i : Nat) (a : α) (σ : S) (hN : bs.length + i ≤ N) (h : ∀ b ∈ bs, ok b) (hi : I i a σ) : Pass (forGo (run g (n + 1)) cx t b₁ [] σ (bs.map tov)) (I (bs.length + i) (bs.foldl f a)) :=
  pf_foldN N tov f ok I (fun i a b σ hN h hb => let ⟨σ₁, h1, h2⟩ := hA i a b σ h hb; ⟨σ₁, h1, hB i a b σ₁ hN h2 hb⟩) bs i a σ hN h hi
theorem pf_eq {xs xs' : List V} (h : xs = xs') (h2 : Pass (forGo (run g n) cx t b₁ b₂ σ xs') P) : Pass (forGo (run g n) cx t b₁ b₂ σ xs) P := h ▸ h2
theorem turns_fold {β : Type} {e : Expr} (tov f : β → V) (ok : β → Prop) (I : S → Prop)
    (h : ∀ b σ, I σ → ok b → ∃ σ₁, assign cx σ t (tov b) = .ok () σ₁ ∧ ∃ σ₂, (run g n).ex cx σ₁ e = .ok (.val (f b)) σ₂ ∧ I σ₂) :
    ∀ (bs : List β) (σ : S), (∀ b ∈ bs, ok b) → I σ → ∃ σ', turns (run g n) cx t [] e σ (bs.map tov) = .ok (bs.map f) σ' ∧ I σ'
  | [], σ, _, hi => ⟨σ, rfl, hi⟩
  | b :: bs, σ, hok, hi => by
    obtain ⟨σ₁, h1, σ₂, h2, h3⟩ := h b σ hi (hok b (List.mem_cons_self ..))
    obtain ⟨σ', h4, h5⟩ := turns_fold tov f ok I h bs σ₂ (fun b hb => hok b (List.mem_cons_of_mem _ hb)) h3
    exact ⟨σ', turns_cons h1 tests_nil h2 h4, h5⟩
theorem turns_foldM {β : Type} {e : Expr} {m₂ : List (Option M)} (tov f : β → V) (ok : β → Prop) (I : S → Prop) (hI : ∀ σ, I σ → σ.mem = m₂)
    (h : ∀ b σ, I σ → ok b → ∃ σ₁, assign cx σ t (tov b) = .ok () σ₁ ∧ ∃ σ₂, (run g n).ex cx σ₁ e = .ok (.val (f b)) σ₂ ∧ I σ₂) (bs : List β) (hok : ∀ b ∈ bs, ok b) {σ : S} (hi : I σ) : ∃ σ', turns (run g n) cx t [] e σ (bs.map tov) = .ok (bs.map f) σ' ∧ σ'.mem = m₂ := by
  obtain ⟨σ', h1, h2⟩ := turns_fold tov f ok I h bs σ hok hi
  exact ⟨σ', h1, hI _ h2⟩
theorem turns_filter {β : Type} {e : Expr} {ifs : List Expr} (tov f : β → V) (p : β → Bool) (ok : β → Prop) (I : S → Prop)
    (h : ∀ b σ, I σ → ok b → ∃ σ₁, assign cx σ t (tov b) = .ok () σ₁ ∧ ∃ σ₂, tests (run g n) cx σ₁ ifs = .ok (p b) σ₂ ∧ I σ₂ ∧ (p b = true → (run g n).ex cx σ₂ e = .ok (.val (f b)) σ₂)) :
    ∀ (bs : List β) (σ : S), (∀ b ∈ bs, ok b) → I σ → ∃ σ', turns (run g n) cx t ifs e σ (bs.map tov) = .ok ((bs.filter p).map f) σ' ∧ I σ'
  | [], σ, _, hi => ⟨σ, rfl, hi⟩
  | b :: bs, σ, hok, hi => by
    obtain ⟨σ₁, h1, σ₂, h2, h3, h4⟩ := h b σ hi (hok b (List.mem_cons_self ..))
    obtain ⟨σ', h5, h6⟩ := turns_filter tov f p ok I h bs σ₂ (fun b hb => hok b (List.mem_cons_of_mem _ hb)) h3
    refine ⟨σ', ?_, h6⟩
    show (assign cx σ t (tov b)).bind _ = _
    rw [h1]; dsimp only [Out.bind]
    rw [h2]; dsimp only
    cases q : p b with
    | true =>
      dsimp only
      rw [List.filter_cons_of_pos (by exact q)]
      show ((run g n).ex cx σ₂ e).bindV _ = _
      rw [h4 q]; dsimp only [Out.bindV]
      rw [h5]; rfl
    | false =>
      dsimp only
      rw [List.filter_cons_of_neg (by rw [q]; exact Bool.false_ne_true)]
      exact h5
theorem turns_filterM {β : Type} {e : Expr} {ifs : List Expr} {m₂ : List (Option M)} {ys : List V} (tov f : β → V) (p : β → Bool) (ok : β → Prop) (I : S → Prop) (hI : ∀ σ, I σ → σ.mem = m₂)
    (h : ∀ b σ, I σ → ok b → ∃ σ₁, assign cx σ t (tov b) = .ok () σ₁ ∧ ∃ σ₂, tests (run g n) cx σ₁ ifs = .ok (p b) σ₂ ∧ I σ₂ ∧ (p b = true → (run g n).ex cx σ₂ e = .ok (.val (f b)) σ₂)) (bs : List β) (hok : ∀ b ∈ bs, ok b) {σ : S} (hi : I σ) (hy : (bs.filter p).map f = ys) :
    ∃ σ', turns (run g n) cx t ifs e σ (bs.map tov) = .ok ys σ' ∧ σ'.mem = m₂ := by
  obtain ⟨σ', h1, h2⟩ := turns_filter tov f p ok I h bs σ hok hi
  exact ⟨σ', hy ▸ h1, hI _ h2⟩
theorem turns_filterT {β : Type} {e : Expr} {ifs : List Expr} {m₃ : List (Option M)} {ys : List V} {j : Nat} (tov f : β → V) (p : β → Bool) (ok : β → Prop) (I : S → Prop) (hI : ∀ σ, I σ → σ.mem.take j = m₃)
    (h : ∀ b σ, I σ → ok b → ∃ σ₁, assign cx σ t (tov b) = .ok () σ₁ ∧ ∃ σ₂, tests (run g n) cx σ₁ ifs = .ok (p b) σ₂ ∧ I σ₂ ∧ (p b = true → (run g n).ex cx σ₂ e = .ok (.val (f b)) σ₂)) (bs : List β) (hok : ∀ b ∈ bs, ok b) {σ : S} (hi : I σ) (hy : (bs.filter p).map f = ys) :
    ∃ σ', turns (run g n) cx t ifs e σ (bs.map tov) = .ok ys σ' ∧ σ'.mem.take j = m₃ := by
  obtain ⟨σ', h1, h2⟩ := turns_filter tov f p ok I h bs σ hok hi
  exact ⟨σ', hy ▸ h1, hI _ h2⟩
theorem comp_ei {e tg it : Expr} {ifs : List Expr} {as : Int} {scope : Scope} {xs ys : List V} {loc : List (Str × A)} {mem m₁ m₂ m₃ : List (Option M)} (ha : Nat.beq as.natAbs 0 = true) (hk : scopeOk scope cx = true) (h1 : src g (run g n) cx σ tg it = .ok xs ⟨loc, mem⟩)
    (hm : mem ++ newCells scope = m₁) {j : Nat} (hj : mem.length = j) (h2 : ∃ σ', turns (run g n) (inner scope cx j) tg ifs e ⟨[], m₁⟩ xs = .ok ys σ' ∧ σ'.mem = m₂) (hl : Nat.ble ys.length lim = true) (ht : m₂.take j = m₃) (hc : closed j m₃ = true) :
    exComp g (run g n) cx σ e ⟨tg, it, ifs, as⟩ scope = .ok (.list ys) ⟨loc, m₃⟩ := by
  obtain ⟨⟨l', m'⟩, h2, h3⟩ := h2
  subst h3
  exact comp_ok ha hk h1 hm hj h2 hl ht hc
theorem comp_et {e tg it : Expr} {ifs : List Expr} {as : Int} {scope : Scope} {xs ys : List V} {loc : List (Str × A)} {mem m₁ m₃ : List (Option M)} (ha : Nat.beq as.natAbs 0 = true) (hk : scopeOk scope cx = true) (h1 : src g (run g n) cx σ tg it = .ok xs ⟨loc, mem⟩)
    (hm : mem ++ newCells scope = m₁) {j : Nat} (hj : mem.length = j) (h2 : ∃ σ', turns (run g n) (inner scope cx j) tg ifs e ⟨[], m₁⟩ xs = .ok ys σ' ∧ σ'.mem.take j = m₃) (hl : Nat.ble ys.length lim = true) (hc : closed j m₃ = true) :
    exComp g (run g n) cx σ e ⟨tg, it, ifs, as⟩ scope = .ok (.list ys) ⟨loc, m₃⟩ := by
  obtain ⟨⟨l', m'⟩, h2, h3⟩ := h2
  exact comp_ok ha hk h1 hm hj h2 hl h3 hc
theorem okv_eq {o : Out A} {u w : V} (h : o = .ok (.val u) σ) (e : u = w) : o = .ok (.val w) σ := e ▸ h
theorem comp_e {e tg it : Expr} {as : Int} {scope : Scope} {xs ys : List V} {loc : List (Str × A)} {mem m₁ m₂ m₃ : List (Option M)} (ha : Nat.beq as.natAbs 0 = true) (hk : scopeOk scope cx = true) (h1 : src g (run g n) cx σ tg it = .ok xs ⟨loc, mem⟩)
    (hm : mem ++ newCells scope = m₁) {j : Nat} (hj : mem.length = j) (h2 : ∃ σ', turns (run g n) (inner scope cx j) tg [] e ⟨[], m₁⟩ xs = .ok ys σ' ∧ σ'.mem = m₂) (hl : Nat.ble ys.length lim = true) (ht : m₂.take j = m₃) (hc : closed j m₃ = true) :
    exComp g (run g n) cx σ e ⟨tg, it, [], as⟩ scope = .ok (.list ys) ⟨loc, m₃⟩ := by
  obtain ⟨⟨l', m'⟩, h2, h3⟩ := h2
  subst h3
  exact comp_ok ha hk h1 hm hj h2 hl ht hc
theorem pw_fold {α : Type} (I : Nat → α → S → Prop) (c : Nat → α → Bool) (f : Nat → α → α) (test : ∀ i a σ, I i a σ → (run g n).tr cx σ t = .ok (c i a) σ) (body : ∀ i a σ, I i a σ → c i a = true → Pass ((run g n).sts cx σ b₁) (I (i + 1) (f i a))) :
    ∀ (j i : Nat) (a : α) (σ : S) (k : Nat), j < k → I i a σ → (∀ i' a', i ≤ i' → i' < i + j → c i' a' = true) → (∀ a', c (i + j) a' = false) → Pass (whileGo (run g n) cx t b₁ k σ) (fun σ' => ∃ a', I (i + j) a' σ')
  | 0, i, a, σ, k + 1, _, hi, _, h2 => by
    have h := test i a σ hi
    have h2' := h2 a
    rw [Nat.add_zero] at h2'
    rw [h2'] at h
    exact ⟨σ, while_stop h, a, hi⟩
  | j + 1, i, a, σ, k + 1, hk, hi, h1, h2 => by
    have h := test i a σ hi
    rw [h1 i a (Nat.le_refl _) (by omega)] at h
    obtain ⟨σ₁, h3, h4⟩ := body i a σ hi (h1 i a (Nat.le_refl _) (by omega))
    obtain ⟨σ', h5, a', h6⟩ := pw_fold I c f test body j (i + 1) (f i a) σ₁ k (by omega) h4 (fun i' a' x y => h1 i' a' (by omega) (by omega)) (fun a' => by rw [show i + 1 + j = i + (j + 1) by omega]; exact h2 a')
    exact ⟨σ', while_go h h3 h5, a', by rw [show i + (j + 1) = i + 1 + j by omega]; exact h6⟩
theorem pw_exc {α β : Type} (I : α → List β → S → Prop) (f : α → β → α) (E : α → S → Prop) (test : ∀ a l σ, I a l σ → (run g n).tr cx σ t = .ok true σ) (step : ∀ a b l σ, I a (b :: l) σ → Pass ((run g n).sts cx σ b₁) (I (f a b) l))
    (stop : ∀ a σ, I a [] σ → ∃ σ', (run g n).sts cx σ b₁ = .exc σ' ∧ E a σ') :
    ∀ (l : List β) (a : α) (σ : S) (k : Nat), l.length < k → I a l σ → ∃ σ', whileGo (run g n) cx t b₁ k σ = .exc σ' ∧ E (l.foldl f a) σ'
  | [], a, σ, k + 1, _, hi => by
    obtain ⟨σ', h1, h2⟩ := stop a σ hi
    exact ⟨σ', while_raise (test a [] σ hi) h1, h2⟩
  | b :: l, a, σ, k + 1, hk, hi => by
    obtain ⟨σ₁, h1, h2⟩ := step a b l σ hi
    obtain ⟨σ', h3, h4⟩ := pw_exc I f E test step stop l (f a b) σ₁ k (by simpa using hk) h2
    exact ⟨σ', while_goX (test a _ σ hi) h1 h3, h4⟩
theorem pw_excQ {α β : Type} {Q : S → Prop} (I : α → List β → S → Prop) (f : α → β → α) (E : α → S → Prop) (test : ∀ a l σ, I a l σ → (run g n).tr cx σ t = .ok true σ) (step : ∀ a b l σ, I a (b :: l) σ → Pass ((run g n).sts cx σ b₁) (I (f a b) l))
    (stop : ∀ a σ, I a [] σ → ∃ σ', (run g n).sts cx σ b₁ = .exc σ' ∧ E a σ') (l : List β) (a : α) {σ : S} {k : Nat} (hk : l.length < k) (hi : I a l σ) (hQ : ∀ σ', E (l.foldl f a) σ' → Q σ') : ∃ σ', whileGo (run g n) cx t b₁ k σ = .exc σ' ∧ Q σ' := by
  obtain ⟨σ', h1, h2⟩ := pw_exc I f E test step stop l a σ k hk hi
  exact ⟨σ', h1, hQ _ h2⟩
theorem ps_while {P : S → Prop} (h : Pass (whileGo (run g n) cx t b₁ 100 σ) P) : Pass (stStep g (run g n) cx σ (.While t b₁ [] p)) P := by
  obtain ⟨σ', h1, h2⟩ := h
  exact ⟨σ', st_while h1, h2⟩
theorem en_try {c x y : Str} {body : List Stmt} {p₁ p₂ p₃ p₄ p₅ p₆ : Pos} {k} {u w : V} (hr : readRaw g cx σ c = some (.val (.bf .stop))) (hl : (isCellK (lkN cx.scope.names c) || isLocK (lkN cx.scope.names c)) = false)
    (hb : ∃ σ₁, (run g n).sts cx σ body = .exc σ₁ ∧ ∃ σ₂ σ₃, readName g cx σ₁ x = .ok (.val u) σ₂ ∧ readName g cx σ₂ y = .ok (.val w) σ₃) :
    Ends (stsStep g (run g n) cx σ (.Try body [.ExceptHandler (some (.Name c p₁)) none [.Return (some (.Tuple [.Name x p₂, .Name y p₃] k p₄)) p₅] p₆] [] [] p :: ss)) (.tup [u, w]) := by
  obtain ⟨σ₁, h1, σ₂, σ₃, h2, h3⟩ := hb
  exact en_ret (st_try hr h1 hl h2 h3)
theorem ex_whileB {Q : S → Prop} (h : ∃ σ', whileGo (run g n) cx t b₁ 100 σ = .exc σ' ∧ Q σ') : ∃ σ', (run g (n + 1)).sts cx σ [.While t b₁ [] p] = .exc σ' ∧ Q σ' := by
  obtain ⟨σ', h1, h2⟩ := h
  exact ⟨σ', sts_exc (st_whileX h1), h2⟩
noncomputable def EndsP (o : Out Fl) (v : V) (P : S → Prop) : Prop := ∃ σ, o = .ok (.ret v) σ ∧ P σ
theorem ep_cons (h1 : stStep g (run g n) cx σ s = .ok .nxt σ₁) (h2 : EndsP (stsStep g (run g n) cx σ₁ ss) v P) : EndsP (stsStep g (run g n) cx σ (s :: ss)) v P := by
  obtain ⟨τ, h, hp⟩ := h2
  exact ⟨τ, sts_cons h1 h, hp⟩
theorem ep_pass {Q : S → Prop} (h1 : Pass (stStep g (run g n) cx σ s) Q) (h2 : ∀ σ₁, Q σ₁ → EndsP (stsStep g (run g n) cx σ₁ ss) v P) : EndsP (stsStep g (run g n) cx σ (s :: ss)) v P := by
  obtain ⟨σ₁, h, hp⟩ := h1
  exact ep_cons h (h2 σ₁ hp)
theorem ep_ret (h1 : stStep g (run g n) cx σ s = .ok (.ret v) σ₁) (hp : P σ₁) : EndsP (stsStep g (run g n) cx σ (s :: ss)) v P := ⟨σ₁, sts_ret h1, hp⟩
theorem call_p {ps : List Str} {body : List Stmt} {scope : Scope} {as : List A} {mem m' : List (Option M)} {l : List (Str × A)} {nm : Str} (hf : g.fns nm = some ⟨ps, body, scope⟩) (hl : Nat.beq ps.length as.length = true) (hb : bindLoc scope ps as = l) (hc : cellNames scope.names = [])
    (h : EndsP (stsStep g (run g n) ⟨scope, []⟩ ⟨l, mem⟩ body) v (fun σ => σ.mem = m')) (hlen : m'.length = mem.length) (hk : closed mem.length m' = true) : (run g (n + 1 + 1)).call mem nm as = .ok v ⟨[], m'⟩ := by
  obtain ⟨⟨σl, σm⟩, h, e⟩ := h
  subst e
  refine call_ok hf hl hb (by rw [bc_nil hc, List.append_nil]) rfl (σl := σl) (σm := σm) (by rw [hc]; exact h) rfl ?_ hk
  rw [← hlen]; exact List.take_length
theorem call_pX {ps : List Str} {body : List Stmt} {scope : Scope} {as : List A} {mem m' : List (Option M)} {l : List (Str × A)} {nm : Str} (hf : g.fns nm = some ⟨ps, body, scope⟩) (hl : Nat.beq ps.length as.length = true) (hb : bindLoc scope ps as = l) (hc : cellNames scope.names = [])
    (h : ∃ σ, stsStep g (run g n) ⟨scope, []⟩ ⟨l, mem⟩ body = .exc σ ∧ σ.mem = m') (hlen : m'.length = mem.length) (hk : closed mem.length m' = true) : (run g (n + 1 + 1)).call mem nm as = .exc ⟨[], m'⟩ := by
  obtain ⟨⟨σl, σm⟩, h, e⟩ := h
  subst e
  refine call_exc hf hl hb (by rw [bc_nil hc, List.append_nil]) rfl (σl := σl) (σm := σm) (by rw [hc]; exact h) ?_ hk
  rw [← hlen]; exact List.take_length
theorem call_e {ps : List Str} {body : List Stmt} {scope : Scope} {as : List A} {m : List (Option M)} {l : List (Str × A)} {nm : Str} (hf : g.fns nm = some ⟨ps, body, scope⟩) (hl : Nat.beq ps.length as.length = true) (hb : bindLoc scope ps as = l) (hc : bindCells scope ps as = m)
    (h : Ends (stsStep g (run g n) ⟨scope, (cellNames scope.names).zipIdx 0⟩ ⟨l, m⟩ body) v) : (run g (n + 1 + 1)).call [] nm as = .ok v ⟨[], []⟩ := by
  obtain ⟨τ, h⟩ := h
  exact call_r hf hl hb hc h
end
end

set_option hygiene false in
local macro_rules | `(tactic| wtm_at "w") => `(tactic| first
  | (with_reducible first | apply put_nil | apply set_0 | apply len_0 | apply tak_0 | apply bl_nil | apply ca_nil | apply sa_nil | apply rp_0)
  | (with_reducible first | apply put_hit | apply ca_hit | apply bc_nil); rfl
  | (with_reducible first | apply put_miss | apply wr_loc | apply bl_loc | apply ca_miss | apply bc_1); rfl; wtm_at "w"
  | (with_reducible apply bl_cell); rfl; wtm_at "w"
  | (with_reducible first | apply set_s | apply app_c | apply len_s | apply tak_s | apply sg_name | apply sg_tup | apply sg_lst | apply rp_s); wtm_at "w"
  | (with_reducible apply app_e); rfl
  | (with_reducible apply app_n)
  | (with_reducible apply wr_cell); rfl; rfl; rfl; wtm_at "w"
  | (with_reducible apply sa_cons); wtm_at "w"; wtm_at "w"
  | (with_reducible apply bc_2); rfl; wtm_at "w"; wtm_at "w"
  | (with_reducible apply bc_4); rfl; wtm_at "w"; wtm_at "w"; wtm_at "w"; wtm_at "w")
set_option hygiene false in
local macro_rules | `(tactic| wtm_at "g") => `(tactic| first
  | (with_reducible assumption)
  | (with_reducible apply gb2); wtm_at "g"; wtm_at "g"; rfl
  | apply gb; wtm_at "g"; rfl
  | (with_reducible first | apply gl_app | apply gl_appl); wtm_at "g"; wtm_at "g"
  | (with_reducible first | apply gl_one | apply gl_sing)
  | (with_reducible first | apply gl_map | apply gl_consl); wtm_at "g"
  | rfl)
set_option hygiene false in
local macro_rules | `(tactic| wtm_at "o") => `(tactic| first
  | (with_reducible first | apply bo_andn | apply bo_orn | apply bo_addn); rfl; rfl
  | (with_reducible first | apply bo_modn | apply bo_divn | apply bo_muln); rfl; rfl; rfl
  | (with_reducible first | apply bo_divn | apply bo_pow2); rfl; rfl; (with_reducible assumption)
  | (with_reducible apply bo_shl); rfl; rfl; (with_reducible assumption); rfl
  | wtm_at "s")
set_option hygiene false in
local macro_rules | `(tactic| wtm_at "s") => `(tactic| first
  | (with_reducible first | apply bo_addl | apply bo_adds); wtm_at "g"
  | rfl)
set_option hygiene false in
local macro_rules | `(tactic| wtm_at "q") => `(tactic| first
  | (with_reducible apply gi_n); rfl; (with_reducible assumption); assumption
  | (with_reducible apply bf_lens); wtm_at "g"
  | (with_reducible first | apply bf_sumn | apply in_p | apply in_str)
  | (with_reducible first | apply me_join | apply pick_tom | apply pick_fromm | apply pick_all); rfl; (with_reducible assumption)
  | (with_reducible apply pick_map)
  | rfl
  | (with_reducible assumption))
set_option hygiene false in
local macro_rules | `(tactic| wtm_at "x") => `(tactic| first
  | (with_reducible first | apply ex_int | apply ex_str | apply ex_neg | apply ex_bool | apply vs_nil | apply as_nil | apply part_none | apply tr_bool)
  | (with_reducible apply ex_nameV); rfl
  | (with_reducible apply ex_nameI); rfl; rfl
  | (with_reducible apply ex_nameL); rfl; rfl; wtm_at "w"; wtm_at "w"
  | (with_reducible apply ex_bin); wtm_at "x"; wtm_at "x"; wtm_at "o"
  | (with_reducible apply ex_slices); wtm_at "x"; wtm_at "x"; wtm_at "x"; wtm_at "g"
  | (with_reducible apply ex_slicel); wtm_at "x"; wtm_at "x"; wtm_at "x"; wtm_at "x"; wtm_at "g"; rfl; wtm_at "q"
  | (with_reducible first | apply ex_meth | apply ex_item | apply F_split); rfl; rfl; wtm_at "x"; wtm_at "x"; wtm_at "q"
  | (with_reducible apply ex_itemp); rfl; rfl; wtm_at "x"; rfl; rfl; wtm_at "q"
  | (with_reducible first | apply ex_cmp | apply tr_cmp | apply st_assert | apply st_ret); wtm_at "x"
  | (with_reducible first | apply ex_list | apply ex_tuple | apply part_some | apply F_list); wtm_at "x"; rfl
  | (with_reducible apply ex_iter); rfl; rfl; wtm_at "x"; wtm_at "w"; wtm_at "w"
  | (with_reducible apply ex_next); rfl; rfl; wtm_at "x"; rfl; wtm_at "w"
  | (with_reducible apply ex_lenp); rfl; rfl; rfl; wtm_at "g"
  | (with_reducible apply ex_len); rfl; rfl; rfl; wtm_at "x"; wtm_at "q"
  | (with_reducible apply ex_bf); rfl; rfl; rfl; wtm_at "x"; wtm_at "q"
  | (with_reducible apply ex_fn); rfl; rfl; wtm_at "x"; rfl; (first | apply iseof_run | apply isterm_run)
  | (with_reducible first | apply vs_cons | apply as_cons); rfl; wtm_at "x"; wtm_at "x"
  | (with_reducible apply cmp_v); rfl; wtm_at "x"; rfl; wtm_at "x"; wtm_at "q"
  | (with_reducible apply cmp_p); rfl; wtm_at "x"; rfl; wtm_at "q"
  | (with_reducible first | apply tr_name | apply tr_call | apply tr_bin); wtm_at "x"; wtm_at "q"
  | (with_reducible apply src_c); rfl; (intro h; cases h); wtm_at "x"; wtm_at "r"
  | (with_reducible apply src_e); rfl; (intro _ _ _ _ h; cases h); wtm_at "x"; wtm_at "r"
  | (with_reducible apply F_rep); wtm_at "x"; wtm_at "x"; rfl; rfl; wtm_at "w"
  | (with_reducible first | apply st_set | apply st_unpack); rfl; wtm_at "x"; wtm_at "w"
  | (with_reducible apply st_setF); rfl; wtm_at "x"; wtm_at "w"; wtm_at "w"; wtm_at "w"
  | (with_reducible apply st_swap2); rfl; rfl; wtm_at "x"; wtm_at "w"
  | (with_reducible apply st_del); rfl; wtm_at "x"; rfl; rfl; wtm_at "w"
  | (with_reducible apply st_append); rfl; rfl; rfl; rfl; wtm_at "x"; rfl; wtm_at "g"; wtm_at "w"
  | (with_reducible apply st_extend); rfl; rfl; rfl; rfl; wtm_at "x"; rfl; wtm_at "g"; wtm_at "w"
  | (with_reducible apply st_aug); rfl; rfl; rfl; wtm_at "x"; rfl; wtm_at "o"; wtm_at "w"
  | (with_reducible apply st_augI); rfl; rfl; rfl; wtm_at "x"; rfl; wtm_at "q"; wtm_at "x"; rfl; wtm_at "o"; apply sx_m; rfl; rfl; (with_reducible assumption); (with_reducible assumption); wtm_at "w")
set_option hygiene false in
local macro_rules | `(tactic| wtm_at "r") => `(tactic| first
  | exact rng5
  | exact rng10
  | rfl)
section
open PySem
set_option backward.match.sparseCases false
set_option maxRecDepth 100000
set_option maxHeartbeats 4000000
set_option linter.unusedVariables false
local macro_rules | `(tactic| wtm_at "o") => `(tactic| wtm_at "s")
noncomputable def dots : Str := ⟨#[46, 46, 46]⟩
noncomputable def fnd (s y : Str) (i j : Int) : Int := match Builtin.Str.occurrences s y (fromIndex s.length i) (min (fromIndex s.length j) s.length) 1 with | k :: _ => (k : Int) | [] => -1
noncomputable def wantS (A B : Str) : Str := ⟨#[40, 46, 46, 46]⟩ ++ Txt.join dots [A, B, A, B] ++ ⟨#[46, 46, 46, 41]⟩
structure Wnt (a b : Nat) : Prop where
  split : Txt.split (wantS ⟨#[a]⟩ ⟨#[b]⟩) dots = [⟨#[40]⟩, ⟨#[a]⟩, ⟨#[b]⟩, ⟨#[a]⟩, ⟨#[b]⟩, ⟨#[41]⟩]
  has : (!(!(Builtin.Str.occurrences (wantS ⟨#[a]⟩ ⟨#[b]⟩) dots 0 (wantS ⟨#[a]⟩ ⟨#[b]⟩).length 1).isEmpty)) = false
  short : (Nat.ble (wantS ⟨#[a]⟩ ⟨#[b]⟩).length lim && !Nat.beq dots.length 0) = true
  join : JoinOk dots [⟨#[a]⟩, ⟨#[b]⟩, ⟨#[a]⟩, ⟨#[b]⟩] = true
  jlen : (Txt.join dots [⟨#[a]⟩, ⟨#[b]⟩, ⟨#[a]⟩, ⟨#[b]⟩]).length ≤ 1000
noncomputable def m4c (t : Str) (a b : Nat) : Bool :=
  decide (fnd t ⟨#[a]⟩ 1 (t.length - 1) < 0) || (decide (fnd t ⟨#[b]⟩ (fnd t ⟨#[a]⟩ 1 (t.length - 1) + 1) (t.length - 1) < 0) ||
    (decide (fnd t ⟨#[a]⟩ (fnd t ⟨#[b]⟩ (fnd t ⟨#[a]⟩ 1 (t.length - 1) + 1) (t.length - 1) + 1) (t.length - 1) < 0) ||
      (decide (fnd t ⟨#[b]⟩ (fnd t ⟨#[a]⟩ (fnd t ⟨#[b]⟩ (fnd t ⟨#[a]⟩ 1 (t.length - 1) + 1) (t.length - 1) + 1) (t.length - 1) + 1) (t.length - 1) < 0) || false)))
noncomputable def m4 (t : Str) (a b : Nat) : Bool := !m4c t a b
theorem ellipsis_run (n : Nat) (t : Str) (a b : Nat) (hw : Wnt a b) (ht : t.length ≤ 1000) (h0 : Txt.startswith t ⟨#[40]⟩ = true) (h1 : Txt.endswith t ⟨#[41]⟩ = true) (h2 : decide ((t.length : Int) - 1 < 1) = false) :
    (run g2 (n + 20)).call [] n_ellipsis_match [.val (.str (wantS ⟨#[a]⟩ ⟨#[b]⟩)), .val (.str t)] = .ok (.bool (m4 t a b)) ⟨[], []⟩ := by
  apply ok_eq
  (apply call_r; rfl; rfl; wtm_at "w"; wtm_at "w")
  apply sts_cons
  · apply st_ifF; wtm_at "x"; exact hw.has; apply blk; exact sts_nil
  apply sts_cons
  · apply st_setF; rfl
    · apply F_split2; rfl; rfl; wtm_at "x"; wtm_at "x"; exact hw.short; exact hw.split
    · wtm_at "w"
    · wtm_at "w"
    · wtm_at "w"
  apply sts_cons; wtm_at "x"
  apply sts_cons; wtm_at "x"
  apply sts_cons; wtm_at "x"
  apply sts_cons
  · apply st_ifT; wtm_at "x"; rfl
    apply blk; apply sts_one
    apply st_ifT; wtm_at "x"; exact h0; apply blk
    apply sts_cons; wtm_at "x"
    apply sts_cons; wtm_at "x"
    exact sts_nil
  apply sts_cons; wtm_at "x"
  apply sts_cons
  · apply st_ifT; wtm_at "x"; rfl
    apply blk; apply sts_one
    apply st_ifT; wtm_at "x"; exact h1; apply blk
    apply sts_cons; wtm_at "x"
    apply sts_cons; wtm_at "x"
    exact sts_nil
  apply sts_cons
  · apply st_ifF; wtm_at "x"; exact h2; apply blk; exact sts_nil
  apply sts_mr
  · apply st_for; apply src_e; rfl; (intro _ _ _ _ h; cases h); wtm_at "x"; rfl
    apply for_m; (wtm_at "w"); apply blk; (apply sts_cons; wtm_at "x"); apply sts_m; (apply st_ifm; wtm_at "x"; (intro _; apply blk; apply sts_ret; apply st_ret; apply ex_bool); rfl)
    · intro _; (apply sts_cons; wtm_at "x"); apply sts_nil
    intro _
    apply for_m; (wtm_at "w"); apply blk; (apply sts_cons; wtm_at "x"); apply sts_m; (apply st_ifm; wtm_at "x"; (intro _; apply blk; apply sts_ret; apply st_ret; apply ex_bool); rfl)
    · intro _; (apply sts_cons; wtm_at "x"); apply sts_nil
    intro _
    apply for_m; (wtm_at "w"); apply blk; (apply sts_cons; wtm_at "x"); apply sts_m; (apply st_ifm; wtm_at "x"; (intro _; apply blk; apply sts_ret; apply st_ret; apply ex_bool); rfl)
    · intro _; (apply sts_cons; wtm_at "x"); apply sts_nil
    intro _
    apply for_m; (wtm_at "w"); apply blk; (apply sts_cons; wtm_at "x"); apply sts_m; (apply st_ifm; wtm_at "x"; (intro _; apply blk; apply sts_ret; apply st_ret; apply ex_bool); rfl)
    · intro _; (apply sts_cons; wtm_at "x"); apply sts_nil
    intro _
    apply for_nilm
  · intro _; apply sts_ret; wtm_at "x"
  show cond (m4c t a b) (V.bool false) (V.bool true) = V.bool (!m4c t a b)
  cases m4c t a b <;> rfl
structure TxtOk (t : Str) : Prop where
  len : t.length ≤ 1000
  st : Txt.startswith t ⟨#[40]⟩ = true
  en : Txt.endswith t ⟨#[41]⟩ = true
  two : decide ((t.length : Int) - 1 < 1) = false
end

section
open PySem PySem.StrLaws
open PySem.Builtin PySem.Builtin.Str
set_option backward.match.sparseCases false
set_option maxRecDepth 100000
set_option linter.unusedVariables false
noncomputable def mk (l : List Nat) : Str := ⟨l.toArray⟩
theorem len_mk (l : List Nat) : (mk l).length = l.length := by simp [mk, Str.length]
theorem cps_mk (l : List Nat) : (mk l).cps.toList = l := rfl
theorem slice_b {l : List Nat} {b : Nat} (hb : b ≤ l.length) : Txt.slice (mk l) none (some (b : Int)) = mk (l.take b) := by
  have := sliceText_to (x := mk l) (j := (b : Int)) ⟨by omega, by rw [cps_mk]; omega⟩
  refine this.trans ?_
  rw [cps_mk]
  simp [mk]
theorem mk_app (l r : List Nat) : mk l ++ mk r = mk (l ++ r) := by
  show (⟨(mk l).cps ++ (mk r).cps⟩ : Str) = _
  simp [mk]
theorem at_one {l : List Nat} {c hi i : Nat} (hhi : hi ≤ l.length) : At (mk l) ⟨#[c]⟩ hi i ↔ i + 1 ≤ hi ∧ l[i]? = some c := by
  have := subAt_one (mk l) c i
  rw [cps_mk, len_mk] at this
  unfold At
  show (i + 1 ≤ hi ∧ _) ↔ _
  constructor
  · intro h; exact ⟨h.1, this.mp ⟨Nat.le_trans h.1 hhi, h.2⟩⟩
  · intro h; exact ⟨h.1, (this.mpr h.2).2⟩
theorem fromIndex_nat {n i : Nat} : fromIndex n (i : Int) = i := by
  unfold fromIndex
  rw [if_neg (by omega)]
  omega
theorem range'_split' {lo n a : Nat} {pre post : List Nat} (h : List.range' lo n = pre ++ a :: post) : ∀ k, lo ≤ k → k < a → k ∈ pre := by
  intro k hlo hk
  have hL : n = pre.length + (post.length + 1) := by simpa using congrArg List.length h
  have hlen : lo + pre.length = a := by
    have h1 : (List.range' lo n)[pre.length]? = some a := by rw [h]; simp
    rw [List.getElem?_range' (by omega)] at h1
    simpa using h1
  have h2 : (List.range' lo n)[k - lo]? = pre[k - lo]? := by rw [h, List.getElem?_append_left (by omega)]
  rw [List.getElem?_range' (by omega)] at h2
  have h3 : pre[k - lo]? = some k := by rw [← h2]; simp; omega
  exact List.mem_of_getElem? h3
theorem occ_from (x y : Str) (lo hi : Nat) (hlh : lo ≤ hi + 1) : (occurrences x y lo hi 1 = [] ∧ ∀ i, lo ≤ i → ¬ At x y hi i) ∨ ∃ i r, occurrences x y lo hi 1 = i :: r ∧ lo ≤ i ∧ At x y hi i ∧ ∀ k, lo ≤ k → k < i → ¬ At x y hi k := by
  rw [occ_eq]
  rcases occ_first x y hi 1 (Nat.le_refl _) (List.range' lo (hi + 1 - lo)) lo (fun i hi' => by simp [List.mem_range'_1] at hi'; omega) with ⟨h0, hn⟩ | ⟨pre, a, post, e, h0, ha, hn⟩
  · refine .inl ⟨by rw [h0], fun i hlo hA => hn i (by have := hA.1; simp [List.mem_range'_1]; omega) hA⟩
  · have hmem : a ∈ List.range' lo (hi + 1 - lo) := by rw [e]; simp
    refine .inr ⟨a, ((forIn (List.range' lo (hi + 1 - lo)) ((#[] : Array Nat), lo) (occBody x y hi 1)).run.fst.toList).tail, ?_, (by simp [List.mem_range'_1] at hmem; omega), ha, fun k hlo hk => hn k (range'_split' e k hlo hk)⟩
    generalize (forIn (List.range' lo (hi + 1 - lo)) ((#[] : Array Nat), lo) (occBody x y hi 1)).run.fst = arr at h0
    have h1 : arr.toList[0]? = some a := by simpa using h0
    cases hL : arr.toList with
    | nil => rw [hL] at h1; cases h1
    | cons b t => rw [hL] at h1; simp at h1; rw [h1]; rfl
theorem in_tx (l : List Nat) (c : Nat) : (!(occurrences (mk l) ⟨#[c]⟩ 0 (mk l).length 1).isEmpty) = decide (c ∈ l) := by
  have hl : (mk l).length ≤ l.length := Nat.le_of_eq (len_mk l)
  rcases occ_from (mk l) ⟨#[c]⟩ 0 (mk l).length (Nat.zero_le _) with ⟨e, hn⟩ | ⟨i, r, e, -, ha, -⟩
  · rw [e, decide_eq_false fun hm => ?_]; rfl
    obtain ⟨j, hj⟩ := List.getElem?_of_mem hm
    exact hn j (Nat.zero_le _) ((at_one hl).mpr ⟨by rw [len_mk]; exact (List.getElem?_eq_some_iff.mp hj).1, hj⟩)
  · rw [e, decide_eq_true (List.mem_of_getElem? ((at_one hl).mp ha).2)]; rfl
theorem fnd_at {l : List Nat} {c i p : Nat} (hl : 1 ≤ l.length) (hp : p + 1 < l.length) (h : l[p]? = some c) (hi : i ≤ p) (hn : ∀ k, i ≤ k → k < p → l[k]? ≠ some c) : fnd (mk l) ⟨#[c]⟩ (i : Int) (((mk l).length : Int) - 1) = (p : Int) := by
  unfold fnd
  rw [len_mk, show ((l.length : Int) - 1) = ((l.length - 1 : Nat) : Int) by omega, fromIndex_nat, fromIndex_nat, Nat.min_eq_left (by omega)]
  have hb : l.length - 1 ≤ l.length := by omega
  have hA := (at_one (l := l) (c := c) (i := p) hb).mpr ⟨by omega, h⟩
  rcases occ_from (mk l) ⟨#[c]⟩ i (l.length - 1) (by omega) with ⟨h0, h1⟩ | ⟨j, r, h0, h3, h1, h2⟩
  · exact absurd hA (h1 p hi)
  · rw [h0]
    have hj := (at_one hb).mp h1
    have : j = p := by
      rcases Nat.lt_trichotomy j p with z | z | z
      · exact absurd hj.2 (hn j h3 z)
      · exact z
      · exact absurd hA (h2 p hi z)
    rw [this]
theorem fnd_no {l : List Nat} {c i : Nat} (hl : 1 ≤ l.length) (hi : i ≤ l.length) (hn : ∀ k, i ≤ k → k + 1 < l.length → l[k]? ≠ some c) : fnd (mk l) ⟨#[c]⟩ (i : Int) (((mk l).length : Int) - 1) = -1 := by
  unfold fnd
  rw [len_mk, show ((l.length : Int) - 1) = ((l.length - 1 : Nat) : Int) by omega, fromIndex_nat, fromIndex_nat, Nat.min_eq_left (by omega)]
  have hb : l.length - 1 ≤ l.length := by omega
  rcases occ_from (mk l) ⟨#[c]⟩ i (l.length - 1) (by omega) with ⟨h0, h1⟩ | ⟨j, r, h0, h3, h1, h2⟩
  · rw [h0]
  · have hj := (at_one hb).mp h1
    exact absurd hj.2 (hn j h3 (by omega))
end

section
open PySem
set_option backward.match.sparseCases false
set_option maxRecDepth 100000
set_option linter.unusedVariables false
set_option maxHeartbeats 4000000
structure Occ (w : List Nat) (k p q : Nat) : Prop where
  lt : p < q
  len : q < w.length
  at1 : w[p]? = some k
  at2 : w[q]? = some k
  no : ∀ i, w[i]? = some k → i = p ∨ i = q
theorem Occ.ne {w : List Nat} {i j p q r s : Nat} (h : i ≠ j) (x : Occ w i p q) (y : Occ w j r s) : p ≠ r ∧ p ≠ s ∧ q ≠ r ∧ q ≠ s := by
  refine ⟨?_, ?_, ?_, ?_⟩ <;> rintro rfl
  · exact h (Option.some.inj (x.at1.symm.trans y.at1))
  · exact h (Option.some.inj (x.at1.symm.trans y.at2))
  · exact h (Option.some.inj (x.at2.symm.trans y.at1))
  · exact h (Option.some.inj (x.at2.symm.trans y.at2))
noncomputable def crsP (p q r s : Nat) : Bool := decide (p < r ∧ r < q ∧ q < s) || decide (r < p ∧ p < s ∧ s < q)
theorem crsP_iff {p q r s : Nat} : crsP p q r s = true ↔ (p < r ∧ r < q ∧ q < s) ∨ (r < p ∧ p < s ∧ s < q) := by
  unfold crsP; simp
theorem crsP_comm (p q r s : Nat) : crsP p q r s = crsP r s p q := Bool.or_comm _ _
noncomputable def L (x y : Nat) : Bool := decide (x < y)
theorem L_true {x y : Nat} (h : x < y) : L x y = true := decide_eq_true h
theorem L_false {x y : Nat} (h : y ≤ x) : L x y = false := decide_eq_false (Nat.not_lt.mpr h)
theorem crsP_xor {p q r s : Nat} (h1 : p < q) (h2 : r < s) (n1 : p ≠ r) (n2 : p ≠ s) (n3 : q ≠ r) (n4 : q ≠ s) : crsP p q r s = ((L p r ^^ L q r) ^^ (L p s ^^ L q s)) := by
  rcases Nat.lt_or_gt_of_ne n1 with a | a
  · rcases Nat.lt_or_gt_of_ne n3 with b | b
    · rw [L_true a, L_true b, L_true (Nat.lt_trans a h2), L_true (Nat.lt_trans b h2)]
      unfold crsP; rw [decide_eq_false (fun z => Nat.lt_asymm b z.2.1), decide_eq_false (fun z => Nat.lt_asymm a z.1)]; rfl
    · rcases Nat.lt_or_gt_of_ne n4 with c | c
      · rw [L_true a, L_false (Nat.le_of_lt b), L_true (Nat.lt_trans a h2), L_true c]
        unfold crsP; rw [decide_eq_true ⟨a, b, c⟩]; rfl
      · rw [L_true a, L_false (Nat.le_of_lt b), L_true (Nat.lt_trans a h2), L_false (Nat.le_of_lt c)]
        unfold crsP; rw [decide_eq_false (fun z => Nat.lt_asymm c z.2.2), decide_eq_false (fun z => Nat.lt_asymm a z.1)]; rfl
  · rcases Nat.lt_or_gt_of_ne n2 with b | b
    · rcases Nat.lt_or_gt_of_ne n4 with c | c
      · rw [L_false (Nat.le_of_lt a), L_false (Nat.le_of_lt (Nat.lt_trans a h1)), L_true b, L_true c]
        unfold crsP; rw [decide_eq_false (fun z => Nat.lt_asymm a z.1), decide_eq_false (fun z => Nat.lt_asymm c z.2.2)]; rfl
      · rw [L_false (Nat.le_of_lt a), L_false (Nat.le_of_lt (Nat.lt_trans a h1)), L_true b, L_false (Nat.le_of_lt c)]
        unfold crsP; rw [decide_eq_false (fun z => Nat.lt_asymm a z.1), decide_eq_true ⟨a, b, c⟩]; rfl
    · rw [L_false (Nat.le_of_lt a), L_false (Nat.le_of_lt (Nat.lt_trans a h1)), L_false (Nat.le_of_lt b), L_false (Nat.le_of_lt (Nat.lt_trans b h1))]
      unfold crsP; rw [decide_eq_false (fun z => Nat.lt_asymm a z.1), decide_eq_false (fun z => Nat.lt_asymm b z.2.1)]; rfl
noncomputable def inn (p q x : Nat) : Bool := L p x && L x q
theorem inn_eq {p q x : Nat} (h : p < q) (xq : x ≠ q) : inn p q x = (L p x ^^ L q x) := by
  unfold inn
  rcases Nat.lt_or_gt_of_ne xq with z | z
  · rw [L_true z, L_false (Nat.le_of_lt z), Bool.and_true, Bool.xor_false]
  · rw [L_false (Nat.le_of_lt z), L_true z, L_true (Nat.lt_trans h z)]; rfl
end

section
open PySem
open PySem.Builtin PySem.Builtin.Str
set_option backward.match.sparseCases false
set_option maxRecDepth 100000
set_option linter.unusedVariables false
set_option maxHeartbeats 4000000
structure Sgn (c : Nat → Nat) : Prop where
  inj : ∀ i, i < 5 → ∀ j, j < 5 → c i = c j → i = j
  n40 : ∀ i, i < 5 → c i ≠ 40
  n41 : ∀ i, i < 5 → c i ≠ 41
structure Good5 (w : List Nat) : Prop where
  len : w.length = 10
  lt : ∀ x ∈ w, x < 5
  occ : ∀ k, k < 5 → ∃ p q, Occ w k p q
noncomputable def twL (c : Nat → Nat) (w : List Nat) : List Nat := 40 :: (w.map c ++ [41])
noncomputable def TW (c : Nat → Nat) (w : List Nat) : Str := mk (twL c w)
section
variable {c : Nat → Nat} {w : List Nat} {k m p q r s : Nat}
theorem twL_len (h : Good5 w) : (twL c w).length = 12 := by unfold twL; simp [h.len]
theorem tw_at (hc : Sgn c) (h : Good5 w) (hk : k < 5) (o : Occ w k p q) (y : Nat) : (twL c w)[y]? = some (c k) ↔ y = p + 1 ∨ y = q + 1 := by
  have hl := h.len; have h1 := o.lt; have h2 := o.len
  unfold twL
  cases y with
  | zero =>
    simp only [List.getElem?_cons_zero, Option.some.injEq]
    constructor
    · intro e; exact absurd e.symm (hc.n40 k hk)
    · omega
  | succ y =>
    rw [List.getElem?_cons_succ]
    by_cases hy : y < 10
    · rw [List.getElem?_append_left (by simp; omega), List.getElem?_map]
      have hyw : w[y]? = some (w[y]'(by omega)) := List.getElem?_eq_getElem (by omega)
      constructor
      · intro e
        rw [hyw] at e
        have e' : c (w[y]'(by omega)) = c k := by simpa using e
        have := hc.inj _ (h.lt _ (List.getElem_mem _)) _ hk e'
        rw [this] at hyw
        rcases o.no y hyw with z | z <;> omega
      · rintro (e | e)
        · have : y = p := by omega
          rw [this, o.at1]; rfl
        · have : y = q := by omega
          rw [this, o.at2]; rfl
    · rw [List.getElem?_append_right (by simp; omega)]
      simp only [List.length_map, hl]
      by_cases h10 : y = 10
      · subst h10
        simp only [Nat.sub_self, List.getElem?_cons_zero, Option.some.injEq]
        constructor
        · intro e; exact absurd e.symm (hc.n41 k hk)
        · omega
      · rw [List.getElem?_eq_none (by simp; omega)]
        constructor
        · intro e; cases e
        · omega
theorem cast1 (a : Nat) : ((a : Int) + 1) = ((a + 1 : Nat) : Int) := by omega
theorem fnd_first (hc : Sgn c) (h : Good5 w) (hk : k < 5) (o : Occ w k p q) {i : Nat} (hi : i ≤ p + 1) : fnd (TW c w) ⟨#[c k]⟩ (i : Int) (((TW c w).length : Int) - 1) = ((p + 1 : Nat) : Int) := by
  have hl := h.len; have h1 := o.lt; have h2 := o.len; have hL := twL_len (c := c) h
  exact fnd_at (by omega) (by omega) ((tw_at hc h hk o _).mpr (.inl rfl)) hi fun j _ hj e => by
    have := (tw_at hc h hk o _).mp e; omega
theorem fnd_second (hc : Sgn c) (h : Good5 w) (hk : k < 5) (o : Occ w k p q) {i : Nat} (hi : p + 1 < i) (hi2 : i ≤ q + 1) : fnd (TW c w) ⟨#[c k]⟩ (i : Int) (((TW c w).length : Int) - 1) = ((q + 1 : Nat) : Int) := by
  have hl := h.len; have h1 := o.lt; have h2 := o.len; have hL := twL_len (c := c) h
  exact fnd_at (by omega) (by omega) ((tw_at hc h hk o _).mpr (.inr rfl)) hi2 fun j hj0 hj e => by
    have := (tw_at hc h hk o _).mp e; omega
theorem fnd_none (hc : Sgn c) (h : Good5 w) (hk : k < 5) (o : Occ w k p q) {i : Nat} (hi : q + 1 < i) (hi2 : i ≤ 12) : fnd (TW c w) ⟨#[c k]⟩ (i : Int) (((TW c w).length : Int) - 1) = -1 := by
  have hl := h.len; have h1 := o.lt; have h2 := o.len; have hL := twL_len (c := c) h
  exact fnd_no (by omega) (by omega) fun j hj0 hj e => by
    have := (tw_at hc h hk o _).mp e; omega
theorem neg_cast (a : Nat) : decide (((a : Nat) : Int) < 0) = false := decide_eq_false (by omega)
theorem tw_m4 (hc : Sgn c) (h : Good5 w) (hk : k < 5) (hm : m < 5) (o : Occ w k p q) (o' : Occ w m r s) (hne : k ≠ m) : m4 (TW c w) (c k) (c m) = decide (p < r ∧ r < q ∧ q < s) := by
  have hl := h.len; have h1 := o.lt; have h2 := o.len; have h3 := o'.lt; have h4 := o'.len
  obtain ⟨n1, n2, n3, n4⟩ := Occ.ne hne o o'
  unfold m4 m4c
  have f1 := fnd_first hc h hk o (i := 1) (by omega)
  rw [show ((1 : Nat) : Int) = 1 from rfl] at f1
  rw [f1, neg_cast, cast1]
  by_cases c1 : p < r
  · rw [fnd_first hc h hm o' (i := p + 1 + 1) (by omega), neg_cast, cast1]
    by_cases c2 : r < q
    · rw [fnd_second hc h hk o (i := r + 1 + 1) (by omega) (by omega), neg_cast, cast1]
      by_cases c3 : q < s
      · rw [fnd_second hc h hm o' (i := q + 1 + 1) (by omega) (by omega), neg_cast, decide_eq_true ⟨c1, c2, c3⟩]; rfl
      · rw [fnd_none hc h hm o' (i := q + 1 + 1) (by omega) (by omega), decide_eq_false (by omega : ¬ (p < r ∧ r < q ∧ q < s))]; rfl
    · rw [fnd_none hc h hk o (i := r + 1 + 1) (by omega) (by omega), decide_eq_false (by omega : ¬ (p < r ∧ r < q ∧ q < s))]; rfl
  · rw [decide_eq_false (by omega : ¬ (p < r ∧ r < q ∧ q < s))]
    by_cases c2 : p < s
    · rw [fnd_second hc h hm o' (i := p + 1 + 1) (by omega) (by omega), neg_cast, cast1]
      by_cases c3 : s < q
      · rw [fnd_second hc h hk o (i := s + 1 + 1) (by omega) (by omega), neg_cast, cast1]
        rw [fnd_none hc h hm o' (i := q + 1 + 1) (by omega) (by omega)]; rfl
      · rw [fnd_none hc h hk o (i := s + 1 + 1) (by omega) (by omega)]; rfl
    · rw [fnd_none hc h hm o' (i := p + 1 + 1) (by omega) (by omega)]; rfl
theorem tw_ok (h : Good5 w) : TxtOk (TW c w) := by
  have hL := twL_len (c := c) h
  refine ⟨?_, ?_, ?_, ?_⟩
  · show (mk _).length ≤ _
    rw [len_mk]; omega
  · unfold Txt.startswith
    have e := (StrLaws.subAt_one (TW c w) 40 0).mpr (by show (twL c w)[0]? = _; rfl)
    rw [e.2, Bool.and_true]
    exact decide_eq_true e.1
  · unfold Txt.endswith
    have hlen : (TW c w).length = 12 := by show (mk _).length = _; rw [len_mk, hL]
    have e := (StrLaws.subAt_one (TW c w) 41 11).mpr (by
      show (twL c w)[11]? = _
      unfold twL
      rw [List.getElem?_cons_succ, List.getElem?_append_right (by simp [h.len])]
      simp [h.len])
    rw [hlen]
    show (decide (0 + 1 ≤ 12) && subAt (TW c w) ⟨#[41]⟩ (12 - 1)) = true
    rw [e.2]; rfl
  · have hlen : (TW c w).length = 12 := by show (mk _).length = _; rw [len_mk, hL]
    rw [hlen]; rfl
end
end

section
open PySem
set_option backward.match.sparseCases false
set_option maxRecDepth 100000
set_option linter.unusedVariables false
set_option maxHeartbeats 4000000
noncomputable def xw (c : Nat → Bool) : List Nat → Bool
  | [] => false
  | a :: r => c a ^^ xw c r
theorem xw_app (c : Nat → Bool) : ∀ l l' : List Nat, xw c (l ++ l') = (xw c l ^^ xw c l')
  | [], l' => (Bool.false_xor _).symm
  | a :: r, l' => by
    show (c a ^^ xw c (r ++ l')) = ((c a ^^ xw c r) ^^ xw c l')
    rw [xw_app c r l', Bool.xor_assoc]
noncomputable def x5 (f : Nat → Bool) : Bool := f 0 ^^ (f 1 ^^ (f 2 ^^ (f 3 ^^ f 4)))
theorem x4 : ∀ a b c d : Bool, ((a ^^ b) ^^ (c ^^ d)) = ((a ^^ c) ^^ (b ^^ d)) := by decide
theorem x5_xor (f g : Nat → Bool) : x5 (fun k => f k ^^ g k) = (x5 f ^^ x5 g) := by
  unfold x5
  rw [x4 (f 3), x4 (f 2), x4 (f 1), x4 (f 0)]
theorem x5_one {a : Nat} (h : a < 5) (c : Nat → Bool) : x5 (fun k => decide (a = k) && c k) = c a := by
  unfold x5
  rcases a with _ | _ | _ | _ | _ | a
  · show (c 0 ^^ false) = _; exact Bool.xor_false _
  · show (false ^^ (c 1 ^^ false)) = _; rw [Bool.xor_false, Bool.false_xor]
  · show (false ^^ (false ^^ (c 2 ^^ false))) = _; rw [Bool.xor_false, Bool.false_xor, Bool.false_xor]
  · show (false ^^ (false ^^ (false ^^ (c 3 ^^ false)))) = _; rw [Bool.xor_false, Bool.false_xor, Bool.false_xor, Bool.false_xor]
  · show (false ^^ (false ^^ (false ^^ (false ^^ c 4)))) = _; rw [Bool.false_xor, Bool.false_xor, Bool.false_xor, Bool.false_xor]
  · exact absurd h (by omega)
theorem x5_congr {f g : Nat → Bool} (h : ∀ k, k < 5 → f k = g k) : x5 f = x5 g := by
  unfold x5
  rw [h 0 (by decide), h 1 (by decide), h 2 (by decide), h 3 (by decide), h 4 (by decide)]
theorem x5_false : x5 (fun _ => false) = false := rfl
noncomputable def odd (n : Nat) : Bool := n % 2 == 1
theorem odd_add (a b : Nat) : odd (a + b) = (odd a ^^ odd b) := by
  unfold odd
  rcases Nat.mod_two_eq_zero_or_one a with h | h <;> rcases Nat.mod_two_eq_zero_or_one b with h' | h' <;> rw [Nat.add_mod, h, h'] <;> rfl
theorem odd_ind (P : Prop) [Decidable P] : odd (if P then 1 else 0) = decide P := by
  by_cases h : P
  · rw [if_pos h, decide_eq_true h]; rfl
  · rw [if_neg h, decide_eq_false h]; rfl
theorem and_xor : ∀ a b c : Bool, ((a ^^ b) && c) = ((a && c) ^^ (b && c)) := by decide
theorem xw_count (c : Nat → Bool) : ∀ {l : List Nat}, (∀ a ∈ l, a < 5) → xw c l = x5 (fun k => odd (l.count k) && c k)
  | [], _ => rfl
  | a :: r, h => by
    have ha := h a (List.mem_cons_self ..)
    show (c a ^^ xw c r) = _
    rw [xw_count c fun b hb => h b (List.mem_cons_of_mem _ hb), ← x5_one ha c, ← x5_xor]
    refine x5_congr fun k _ => ?_
    rw [List.count_cons, odd_add, and_xor, Bool.xor_comm]
    congr 2
    by_cases e : a = k
    · subst e; rw [decide_eq_true rfl, if_pos (beq_self_eq_true _)]; rfl
    · rw [decide_eq_false e, if_neg (fun z => e (eq_of_beq z))]; rfl
theorem ind_succ (a m r : Nat) : (if a ≤ r ∧ r < a + (m + 1) then 1 else 0) = (if a ≤ r ∧ r < a + m then 1 else 0) + (if a + m = r then 1 else 0) := by
  by_cases e : a + m = r
  · subst e
    rw [if_pos rfl, if_neg (fun z => Nat.lt_irrefl _ z.2 : ¬ (a ≤ a + m ∧ a + m < a + m)), if_pos ⟨Nat.le_add_right _ _, Nat.lt_succ_self _⟩]
  · rw [if_neg e]
    by_cases c : a ≤ r ∧ r < a + m
    · rw [if_pos c, if_pos ⟨c.1, Nat.lt_succ_of_lt c.2⟩]
    · rw [if_neg c, if_neg (fun z => c ⟨z.1, Nat.lt_of_le_of_ne (Nat.le_of_lt_succ z.2) (Ne.symm e)⟩)]
theorem four_sum (a b c d : Nat) : a + b + (c + d) = a + c + (b + d) := by omega
theorem count_slice {w : List Nat} {j r s : Nat} (o : Occ w j r s) (a : Nat) : ∀ m, a + m ≤ w.length → ((w.drop a).take m).count j = (if a ≤ r ∧ r < a + m then 1 else 0) + (if a ≤ s ∧ s < a + m then 1 else 0)
  | 0, _ => by
    rw [List.take_zero, if_neg (fun z => Nat.lt_irrefl _ (Nat.lt_of_lt_of_le z.2 z.1)), if_neg (fun z => Nat.lt_irrefl _ (Nat.lt_of_lt_of_le z.2 z.1))]; rfl
  | m + 1, h => by
    have hy : w[a + m]? = some (w[a + m]'h) := List.getElem?_eq_getElem h
    generalize w[a + m]'h = y at hy
    have e : (w.drop a).take (m + 1) = (w.drop a).take m ++ [y] := by
      rw [List.take_add_one, List.getElem?_drop, hy]; rfl
    have c1 : [y].count j = (if a + m = r then 1 else 0) + (if a + m = s then 1 else 0) := by
      by_cases c : y = j
      · subst c
        rw [List.count_singleton_self]
        rcases o.no _ hy with z | z
        · rw [if_pos z, if_neg (fun z' => Nat.ne_of_lt o.lt (z.symm.trans z'))]
        · rw [if_pos z, if_neg (fun z' => Nat.ne_of_lt o.lt (z'.symm.trans z))]
      · rw [List.count_singleton, if_neg (fun z => c (eq_of_beq z)), if_neg, if_neg]
        · exact fun z => c (Option.some.inj (hy.symm.trans ((congrArg (w[·]?) z).trans o.at2)))
        · exact fun z => c (Option.some.inj (hy.symm.trans ((congrArg (w[·]?) z).trans o.at1)))
    rw [e, List.count_append, count_slice o a m (Nat.le_of_lt h), c1, ind_succ, ind_succ]
    exact four_sum _ _ _ _
theorem inn_self (p q : Nat) : inn p q p = false ∧ inn p q q = false := by
  unfold inn
  rw [L_false (Nat.le_refl p), L_false (Nat.le_refl q), Bool.and_false]; exact ⟨rfl, rfl⟩
structure Trp (w : List Nat) (P Q : Nat → Nat) : Prop where
  len : w.length = 10
  lt : ∀ a ∈ w, a < 5
  occ : ∀ k, k < 5 → Occ w k (P k) (Q k)
section
variable {w : List Nat} {P Q : Nat → Nat} (T : Trp w P Q) (c : Nat → Bool)
include T
noncomputable def crX (P Q : Nat → Nat) (k l : Nat) : Bool := crsP (P k) (Q k) (P l) (Q l)
theorem between {k : Nat} (hk : k < 5) : xw c ((w.drop (P k + 1)).take (Q k - (P k + 1))) = x5 (fun l => crX P Q k l && c l) := by
  have o := T.occ k hk
  have e : P k + 1 + (Q k - (P k + 1)) = Q k := Nat.add_sub_of_le o.lt
  rw [xw_count c fun a ha => T.lt a (List.mem_of_mem_drop (List.mem_of_mem_take ha))]
  refine x5_congr fun l hl => ?_
  have ol := T.occ l hl
  rw [count_slice ol _ _ (e.symm ▸ Nat.le_of_lt o.len), e, odd_add, odd_ind, odd_ind, Bool.decide_and, Bool.decide_and]
  congr 1
  show (inn (P k) (Q k) (P l) ^^ inn (P k) (Q k) (Q l)) = _
  by_cases q : l = k
  · subst q
    rw [(inn_self _ _).1, (inn_self _ _).2]
    cases h : crX P Q l l with
    | false => rfl
    | true =>
      rcases crsP_iff.mp h with z | z
      · exact absurd z.1 (Nat.lt_irrefl _)
      · exact absurd z.1 (Nat.lt_irrefl _)
  · obtain ⟨n1, n2, n3, n4⟩ := Occ.ne q ol o
    rw [inn_eq o.lt n2, inn_eq o.lt n4]
    exact (crsP_xor o.lt ol.lt (Ne.symm n1) (Ne.symm n3) (Ne.symm n2) (Ne.symm n4)).symm
noncomputable def pre (w : List Nat) (c : Nat → Bool) (i : Nat) : Bool := xw c (w.take i)
omit T in
theorem pre_succ {i a : Nat} (h : w[i]? = some a) : pre w c (i + 1) = (pre w c i ^^ c a) := by
  unfold pre
  rw [List.take_add_one, h, xw_app]
  show (xw c (w.take i) ^^ (c a ^^ false)) = _
  rw [Bool.xor_false]
theorem pre_all : pre w c 10 = false := by
  unfold pre
  rw [List.take_of_length_le (Nat.le_of_eq T.len), xw_count c T.lt]
  refine (x5_congr (g := fun _ => false) fun k hk => ?_).trans x5_false
  have o := T.occ k hk
  have := count_slice o 0 10 (by rw [T.len]; exact Nat.le_refl _)
  rw [List.drop_zero, List.take_of_length_le (Nat.le_of_eq T.len)] at this
  have h2 : Q k < 10 := T.len ▸ o.len
  rw [this, if_pos ⟨Nat.zero_le _, by rw [Nat.zero_add]; exact Nat.lt_trans o.lt h2⟩, if_pos ⟨Nat.zero_le _, by rw [Nat.zero_add]; exact h2⟩]
  rfl
theorem pre_mid {k : Nat} (hk : k < 5) : pre w c (Q k) = (pre w c (P k + 1) ^^ x5 (fun l => crX P Q k l && c l)) := by
  have o := T.occ k hk
  rw [← between T c hk]
  unfold pre
  have e : w.take (Q k) = w.take (P k + 1) ++ (w.drop (P k + 1)).take (Q k - (P k + 1)) := by
    have := List.take_add (l := w) (i := P k + 1) (j := Q k - (P k + 1))
    rw [Nat.add_sub_of_le o.lt] at this
    exact this
  rw [e, xw_app]
end
noncomputable def prs (κ p q : Nat) : List (Nat × Nat) := match κ with
  | 0 => [(p, p + 1), (q, (q + 1) % 10)]
  | 1 => [(p, (q + 1) % 10), (q, p + 1)]
  | _ => [(p, q), (p + 1, (q + 1) % 10)]
noncomputable def Resp {α : Type} (f : Nat → α) (l : List (Nat × Nat)) : Prop := ∀ ab ∈ l, f ab.1 = f ab.2
noncomputable def cnd (κ : Nat) (a b : Bool) : Bool := match κ with
  | 0 => !a
  | 1 => !b
  | _ => !(b ^^ a)
theorem resp_cnd {f : Nat → Bool} {κ p q : Nat} {a b : Bool} (h1 : f (p + 1) = (f p ^^ a)) (h2 : f ((q + 1) % 10) = (f q ^^ a)) (h3 : f q = (f (p + 1) ^^ b)) : Resp f (prs κ p q) ↔ cnd κ a b = true := by
  have two : ∀ {u v u' v' : Nat}, Resp f [(u, v), (u', v')] ↔ f u = f v ∧ f u' = f v' := fun {u v u' v'} =>
    ⟨fun h => ⟨h (u, v) (List.mem_cons_self ..), h (u', v') (List.mem_cons_of_mem _ (List.mem_cons_self ..))⟩, fun h ab hab => by
      rcases List.mem_cons.mp hab with rfl | hab
      · exact h.1
      · rw [List.mem_singleton.mp hab]; exact h.2⟩
  unfold prs cnd
  split <;> rw [two, h2, h3, h1] <;> generalize f p = x <;> clear h1 h2 h3 two <;> revert x a b <;> decide
theorem cor_diff {f : Nat → Bool} {κ p q : Nat} (h : Resp f (prs κ p q)) : (f q ^^ f ((q + 1) % 10)) = (f p ^^ f (p + 1)) := by
  have g := fun (u v u' v' : Nat) (h : Resp f [(u, v), (u', v')]) => (⟨h (u, v) (List.mem_cons_self ..), h (u', v') (List.mem_cons_of_mem _ (List.mem_cons_self ..))⟩ : f u = f v ∧ f u' = f v')
  unfold prs at h
  split at h
  · obtain ⟨a, b⟩ := g _ _ _ _ h
    rw [a, b, Bool.xor_self, Bool.xor_self]
  · obtain ⟨a, b⟩ := g _ _ _ _ h
    rw [a, b, Bool.xor_comm]
  · obtain ⟨a, b⟩ := g _ _ _ _ h
    rw [a, b]
section
variable {w : List Nat} {P Q : Nat → Nat} (T : Trp w P Q) {κ : Nat → Nat}
include T
noncomputable def AllR {α : Type} (P Q κ : Nat → Nat) (f : Nat → α) : Prop := ∀ k, k < 5 → Resp f (prs (κ k) (P k) (Q k))
noncomputable def diff (P : Nat → Nat) (f : Nat → Bool) (k : Nat) : Bool := f (P k) ^^ f (P k + 1)
theorem step_all {f : Nat → Bool} (h : AllR P Q κ f) {i a : Nat} (hi : w[i]? = some a) : f ((i + 1) % 10) = (f i ^^ diff P f a) := by
  have ha : a < 5 := T.lt a (List.mem_of_getElem? hi)
  have o := T.occ a ha
  have hq : Q a < 10 := T.len ▸ o.len
  unfold diff
  have x : ∀ u v : Bool, v = (u ^^ (u ^^ v)) := by decide
  rcases o.no i hi with rfl | rfl
  · rw [Nat.mod_eq_of_lt (Nat.lt_of_le_of_lt o.lt hq)]; exact x _ _
  · rw [← cor_diff (h a ha)]; exact x _ _
theorem walk_all {f : Nat → Bool} (h : AllR P Q κ f) : ∀ i, i < 10 → f i = (f 0 ^^ pre w (diff P f) i)
  | 0, _ => (Bool.xor_false _).symm
  | i + 1, hi => by
    have hw : w[i]? = some (w[i]'(by rw [T.len]; exact Nat.lt_of_succ_lt hi)) := List.getElem?_eq_getElem _
    have := step_all T h hw
    rw [Nat.mod_eq_of_lt hi] at this
    rw [this, walk_all h i (Nat.lt_of_succ_lt hi), pre_succ _ hw, Bool.xor_assoc]
theorem even_pre (c : Nat → Bool) : AllR P Q κ (fun i => pre w c (i % 10)) ↔ ∀ k, k < 5 → cnd (κ k) (c k) (x5 fun l => crX P Q k l && c l) = true := by
  refine forall_congr' fun k => forall_congr' fun hk => ?_
  have o := T.occ k hk
  have hq : Q k < 10 := T.len ▸ o.len
  have hp : P k + 1 < 10 := Nat.lt_of_le_of_lt o.lt hq
  refine resp_cnd ?_ ?_ ?_
  · show pre w c ((P k + 1) % 10) = _
    rw [Nat.mod_eq_of_lt hp, Nat.mod_eq_of_lt (Nat.lt_of_succ_lt hp), pre_succ _ o.at1]
  · show pre w c ((Q k + 1) % 10 % 10) = _
    rw [Nat.mod_mod, Nat.mod_eq_of_lt hq, ← pre_succ _ o.at2]
    rcases Nat.lt_or_ge (Q k + 1) 10 with z | z
    · rw [Nat.mod_eq_of_lt z]
    · have e : Q k + 1 = 10 := Nat.le_antisymm hq z
      rw [e, pre_all T]; rfl
  · show pre w c (Q k % 10) = (pre w c ((P k + 1) % 10) ^^ _)
    rw [Nat.mod_eq_of_lt hq, Nat.mod_eq_of_lt hp, pre_mid T c hk]
theorem diff_pre (c : Nat → Bool) {k : Nat} (hk : k < 5) : diff P (fun i => pre w c (i % 10)) k = c k := by
  have o := T.occ k hk
  have hp : P k + 1 < 10 := Nat.lt_of_le_of_lt o.lt (T.len ▸ o.len)
  unfold diff
  show (pre w c (P k % 10) ^^ pre w c ((P k + 1) % 10)) = _
  rw [Nat.mod_eq_of_lt hp, Nat.mod_eq_of_lt (Nat.lt_of_succ_lt hp), pre_succ _ o.at1, ← Bool.xor_assoc, Bool.xor_self, Bool.false_xor]
theorem even_iff {f : Nat → Bool} (h : AllR P Q κ f) : ∀ k, k < 5 → cnd (κ k) (diff P f k) (x5 fun l => crX P Q k l && diff P f l) = true := by
  refine (even_pre T (diff P f)).mp fun k hk ab hab => ?_
  have hr := h k hk ab hab
  have o := T.occ k hk
  have hq : Q k < 10 := T.len ▸ o.len
  have hp : P k + 1 < 10 := Nat.lt_of_le_of_lt o.lt hq
  have hm : ab.1 < 10 ∧ ab.2 < 10 := by
    have m10 : (Q k + 1) % 10 < 10 := Nat.mod_lt _ (by decide)
    have p10 : P k < 10 := Nat.lt_of_succ_lt hp
    have two : ∀ {u v u' v' : Nat}, ab ∈ [(u, v), (u', v')] → u < 10 → v < 10 → u' < 10 → v' < 10 → ab.1 < 10 ∧ ab.2 < 10 := fun hab a b c d => by
      rcases List.mem_cons.mp hab with e | e
      · rw [e]; exact ⟨a, b⟩
      · rw [List.mem_singleton.mp e]; exact ⟨c, d⟩
    unfold prs at hab
    split at hab
    · exact two hab p10 hp hq m10
    · exact two hab p10 m10 hq hp
    · exact two hab p10 hq hp m10
  show pre w (diff P f) (ab.1 % 10) = pre w (diff P f) (ab.2 % 10)
  rw [Nat.mod_eq_of_lt hm.1, Nat.mod_eq_of_lt hm.2]
  have e1 := walk_all T h ab.1 hm.1
  have e2 := walk_all T h ab.2 hm.2
  rw [hr, e2] at e1
  have x : ∀ u a b : Bool, (u ^^ a) = (u ^^ b) → b = a := by decide
  exact x _ _ _ e1
theorem diff_zero {f : Nat → Bool} (h : AllR P Q κ f) (hz : ∀ k, k < 5 → diff P f k = false) : ∀ i, i < 10 → f i = f 0 := fun i hi => by
  have hx : ∀ l : List Nat, (∀ a ∈ l, a < 5) → xw (diff P f) l = false := fun l => by
    induction l with
    | nil => exact fun _ => rfl
    | cons a r ih =>
      intro hl
      show (diff P f a ^^ xw (diff P f) r) = false
      rw [hz a (hl a (List.mem_cons_self ..)), ih fun b hb => hl b (List.mem_cons_of_mem _ hb)]; rfl
  rw [walk_all T h i hi]
  unfold pre
  rw [hx _ fun a ha => T.lt a (List.mem_of_mem_take ha), Bool.xor_false]
end
end

section
open PySem
set_option backward.match.sparseCases false
set_option maxRecDepth 100000
set_option linter.unusedVariables false
set_option maxHeartbeats 4000000
noncomputable def mergeL (R : List Nat) (ab : Nat × Nat) : List Nat := R.map fun x => cond (Nat.beq x (R.getD ab.1 0)) (R.getD ab.2 0) x
structure Ring (R : List Nat) (dn : List (Nat × Nat)) : Prop where
  len : R.length = 10
  eq : ∀ ab ∈ dn, R.getD ab.1 0 = R.getD ab.2 0
  ind : ∀ f : Nat → Bool, Resp f dn → ∀ i j, i < 10 → j < 10 → R.getD i 0 = R.getD j 0 → f i = f j
theorem getD_of {R : List Nat} {i : Nat} (h : i < R.length) : R.getD i 0 = R[i] := by
  rw [List.getD_eq_getElem?_getD, List.getElem?_eq_getElem h]; rfl
theorem merge_at {R : List Nat} (hl : R.length = 10) {a b i : Nat} (hi : i < 10) : (mergeL R (a, b)).getD i 0 = cond (Nat.beq (R.getD i 0) (R.getD a 0)) (R.getD b 0) (R.getD i 0) := by
  have h1 : i < R.length := hl ▸ hi
  rw [getD_of h1, getD_of (by unfold mergeL; rw [List.length_map]; exact h1)]
  unfold mergeL
  rw [List.getElem_map]
theorem ring_0 : Ring (List.range 10) [] := by
  refine ⟨rfl, fun ab h => (nomatch h), fun f _ i j hi hj e => ?_⟩
  rw [getD_of (by rw [List.length_range]; exact hi), getD_of (by rw [List.length_range]; exact hj), List.getElem_range, List.getElem_range] at e
  rw [e]
theorem Ring.merge {R : List Nat} {dn : List (Nat × Nat)} (h : Ring R dn) {a b : Nat} (ha : a < 10) (hb : b < 10) (hd : ∀ ab ∈ dn, ab.1 < 10 ∧ ab.2 < 10) : Ring (mergeL R (a, b)) ((a, b) :: dn) := by
  refine ⟨by unfold mergeL; rw [List.length_map]; exact h.len, fun ab hab => ?_, fun f hf i j hi hj e => ?_⟩
  · rcases List.mem_cons.mp hab with rfl | hab
    · rw [merge_at h.len ha, merge_at h.len hb, Nat.beq_refl, cond_true]
      cases Nat.beq (R.getD b 0) (R.getD a 0) <;> rfl
    · rw [merge_at h.len (hd ab hab).1, merge_at h.len (hd ab hab).2, h.eq ab hab]
  · have hfd : Resp f dn := fun ab hab => hf ab (List.mem_cons_of_mem _ hab)
    have hab : f a = f b := hf (a, b) (List.mem_cons_self ..)
    have g := h.ind f hfd
    rw [merge_at h.len hi, merge_at h.len hj] at e
    cases q : Nat.beq (R.getD i 0) (R.getD a 0) with
    | true =>
      have e1 := g i a hi ha (Nat.eq_of_beq_eq_true q)
      rw [q, cond_true] at e
      cases q' : Nat.beq (R.getD j 0) (R.getD a 0) with
      | true => rw [e1, g j a hj ha (Nat.eq_of_beq_eq_true q')]
      | false =>
        rw [q', cond_false] at e
        rw [e1, hab, g b j hb hj e]
    | false =>
      rw [q, cond_false] at e
      cases q' : Nat.beq (R.getD j 0) (R.getD a 0) with
      | true =>
        rw [q', cond_true] at e
        rw [g i b hi hb e, ← hab, g j a hj ha (Nat.eq_of_beq_eq_true q')]
      | false =>
        rw [q', cond_false] at e
        exact g i j hi hj e
theorem Ring.all {R : List Nat} {dn : List (Nat × Nat)} (h : Ring R dn) (hd : ∀ ab ∈ dn, ab.1 < 10 ∧ ab.2 < 10) : ∀ l : List (Nat × Nat), (∀ ab ∈ l, ab.1 < 10 ∧ ab.2 < 10) → ∃ dn', Ring (l.foldl mergeL R) dn' ∧ (∀ ab ∈ dn', ab.1 < 10 ∧ ab.2 < 10) ∧ ∀ ab, ab ∈ dn' ↔ ab ∈ dn ∨ ab ∈ l
  | [], _ => ⟨dn, h, hd, fun ab => by simp⟩
  | (a, b) :: l, hl => by
    have hab := hl (a, b) (List.mem_cons_self ..)
    obtain ⟨dn', h1, h2, h3⟩ := Ring.all (h.merge hab.1 hab.2 hd) (fun ab hm => by
      rcases List.mem_cons.mp hm with rfl | hm
      · exact hab
      · exact hd ab hm) l fun ab hm => hl ab (List.mem_cons_of_mem _ hm)
    refine ⟨dn', h1, h2, fun ab => ?_⟩
    rw [h3, List.mem_cons, List.mem_cons]
    exact ⟨fun z => z.elim (fun z => z.elim (fun z => .inr (.inl z)) .inl) fun z => .inr (.inr z), fun z => z.elim (fun z => .inl (.inr z)) fun z => z.elim (fun z => .inl (.inl z)) .inr⟩
noncomputable def ringK (κ P Q : Nat → Nat) (R : List Nat) (k : Nat) : List Nat := (prs (κ k) (P k) (Q k)).foldl mergeL R
noncomputable def ringF (κ P Q : Nat → Nat) : List Nat := [0, 1, 2, 3, 4].foldl (ringK κ P Q) (List.range 10)
theorem prs_lt {κ p q : Nat} (hp : p + 1 < 10) (hq : q < 10) : ∀ ab ∈ prs κ p q, ab.1 < 10 ∧ ab.2 < 10 := fun ab hab => by
  have m10 : (q + 1) % 10 < 10 := Nat.mod_lt _ (by decide)
  have p10 : p < 10 := Nat.lt_of_succ_lt hp
  have two : ∀ {u v u' v' : Nat}, ab ∈ [(u, v), (u', v')] → u < 10 → v < 10 → u' < 10 → v' < 10 → ab.1 < 10 ∧ ab.2 < 10 := fun hab a b c d => by
    rcases List.mem_cons.mp hab with e | e
    · rw [e]; exact ⟨a, b⟩
    · rw [List.mem_singleton.mp e]; exact ⟨c, d⟩
  unfold prs at hab
  split at hab
  · exact two hab p10 hp hq m10
  · exact two hab p10 m10 hq hp
  · exact two hab p10 hq hp m10
structure Rings (κ P Q : Nat → Nat) (R : List Nat) : Prop where
  len : R.length = 10
  resp : AllR P Q κ fun i => R.getD i 0
  ind : ∀ f : Nat → Bool, AllR P Q κ f → ∀ i j, i < 10 → j < 10 → R.getD i 0 = R.getD j 0 → f i = f j
theorem ringF_ok {w : List Nat} {P Q κ : Nat → Nat} (T : Trp w P Q) : Rings κ P Q (ringF κ P Q) := by
  have b : ∀ k, k < 5 → ∀ ab ∈ prs (κ k) (P k) (Q k), ab.1 < 10 ∧ ab.2 < 10 := fun k hk => by
    have o := T.occ k hk
    have hq : Q k < 10 := T.len ▸ o.len
    exact prs_lt (Nat.lt_of_le_of_lt o.lt hq) hq
  obtain ⟨d0, r0, l0, m0⟩ := ring_0.all (fun _ h => nomatch h) _ (b 0 (by decide))
  obtain ⟨d1, r1, l1, m1⟩ := r0.all l0 _ (b 1 (by decide))
  obtain ⟨d2, r2, l2, m2⟩ := r1.all l1 _ (b 2 (by decide))
  obtain ⟨d3, r3, l3, m3⟩ := r2.all l2 _ (b 3 (by decide))
  obtain ⟨d4, r4, l4, m4⟩ := r3.all l3 _ (b 4 (by decide))
  refine ⟨r4.len, fun k hk ab hab => r4.eq ab ?_, fun f hf => r4.ind f fun ab hab => ?_⟩
  · rw [m4, m3, m2, m1, m0]
    rcases k with _ | _ | _ | _ | _ | k
    · exact .inl (.inl (.inl (.inl (.inr hab))))
    · exact .inl (.inl (.inl (.inr hab)))
    · exact .inl (.inl (.inr hab))
    · exact .inl (.inr hab)
    · exact .inr hab
    · exact absurd hk (by omega)
  · rw [m4, m3, m2, m1, m0] at hab
    rcases hab with (((((h | h) | h) | h) | h) | h)
    · exact nomatch h
    · exact hf 0 (by decide) ab h
    · exact hf 1 (by decide) ab h
    · exact hf 2 (by decide) ab h
    · exact hf 3 (by decide) ab h
    · exact hf 4 (by decide) ab h
noncomputable def b5 (b : Nat → Bool) : Nat := cond (b 4) 1 0 + cond (b 3) 2 0 + cond (b 2) 4 0 + cond (b 1) 8 0 + cond (b 0) 16 0
noncomputable def bt (m k : Nat) : Bool := m.testBit (4 - k)
theorem b5_all : ∀ b0 b1 b2 b3 b4 : Bool, (cond b4 1 0 + cond b3 2 0 + cond b2 4 0 + cond b1 8 0 + cond b0 16 0 < 32) ∧
    bt (cond b4 1 0 + cond b3 2 0 + cond b2 4 0 + cond b1 8 0 + cond b0 16 0) 0 = b0 ∧ bt (cond b4 1 0 + cond b3 2 0 + cond b2 4 0 + cond b1 8 0 + cond b0 16 0) 1 = b1 ∧
    bt (cond b4 1 0 + cond b3 2 0 + cond b2 4 0 + cond b1 8 0 + cond b0 16 0) 2 = b2 ∧ bt (cond b4 1 0 + cond b3 2 0 + cond b2 4 0 + cond b1 8 0 + cond b0 16 0) 3 = b3 ∧
    bt (cond b4 1 0 + cond b3 2 0 + cond b2 4 0 + cond b1 8 0 + cond b0 16 0) 4 = b4 := by decide
theorem b5_lt (b : Nat → Bool) : b5 b < 32 := (b5_all _ _ _ _ _).1
theorem b5_bt (b : Nat → Bool) : ∀ {k : Nat}, k < 5 → bt (b5 b) k = b k
  | 0, _ => (b5_all _ _ _ _ _).2.1
  | 1, _ => (b5_all _ _ _ _ _).2.2.1
  | 2, _ => (b5_all _ _ _ _ _).2.2.2.1
  | 3, _ => (b5_all _ _ _ _ _).2.2.2.2.1
  | 4, _ => (b5_all _ _ _ _ _).2.2.2.2.2
  | _ + 5, h => absurd h (by omega)
theorem b5_of : ∀ m : Nat, m < 32 → b5 (bt m) = m := by decide
theorem b5_congr {b b' : Nat → Bool} (h : ∀ k, k < 5 → b k = b' k) : b5 b = b5 b' := by
  unfold b5
  rw [h 0 (by decide), h 1 (by decide), h 2 (by decide), h 3 (by decide), h 4 (by decide)]
theorem b5_inj {b b' : Nat → Bool} (h : b5 b = b5 b') : ∀ k, k < 5 → b k = b' k := fun k hk => by
  rw [← b5_bt b hk, h, b5_bt b' hk]
theorem b5_xor (b b' : Nat → Bool) : b5 b ^^^ b5 b' = b5 fun k => b k ^^ b' k := by
  have hl : b5 b ^^^ b5 b' < 32 := Nat.xor_lt_two_pow (n := 5) (b5_lt b) (b5_lt b')
  rw [← b5_of _ hl]
  refine b5_congr fun k hk => ?_
  show (b5 b ^^^ b5 b').testBit (4 - k) = _
  rw [Nat.testBit_xor]
  show (bt (b5 b) k ^^ bt (b5 b') k) = _
  rw [b5_bt b hk, b5_bt b' hk]
theorem diff_xor (P : Nat → Nat) (f g : Nat → Bool) (k : Nat) : diff P (fun i => f i ^^ g i) k = (diff P f k ^^ diff P g k) := x4 _ _ _ _
noncomputable def vl (P : Nat → Nat) (R : Nat → Int) (S : Int → Bool) : Nat := b5 (diff P fun i => S (R i))
noncomputable def core (P : Nat → Nat) (R : Nat → Int) (l : Int) : Nat := vl P R fun x => decide (x = l)
theorem vl_xor (P : Nat → Nat) (R : Nat → Int) (S S' : Int → Bool) : vl P R S ^^^ vl P R S' = vl P R fun x => S x ^^ S' x := by
  unfold vl
  rw [b5_xor]
  exact b5_congr fun k _ => (diff_xor P (fun i => S (R i)) (fun i => S' (R i)) k).symm
noncomputable def addM (P : Nat → Nat) (R : Nat → Int) (M : List Nat) (l : Int) : List Nat := M ++ M.map fun m => m ^^^ core P R l
structure Msk (P : Nat → Nat) (R : Nat → Int) (M : List Nat) (ls : List Int) : Prop where
  nodup : M.Nodup
  mem : ∀ m, m ∈ M ↔ ∃ S : Int → Bool, (∀ l, S l = true → l ∈ ls) ∧ m = vl P R S
theorem xor_can : ∀ a b : Nat, (a ^^^ b) ^^^ b = a := fun a b => by rw [Nat.xor_assoc, Nat.xor_self, Nat.xor_zero]
section
variable {P Q κ : Nat → Nat} {w : List Nat} (T : Trp w P Q) {r : List Nat} (G : Rings κ P Q r)
include T G
theorem lab_all (S : Int → Bool) : AllR P Q κ fun i => S ((r.getD i 0 : Nat) : Int) := fun k hk ab hab => by
  have := G.resp k hk ab hab
  show S _ = S _
  rw [show r.getD ab.1 0 = r.getD ab.2 0 from this]
theorem lab_zero {S : Int → Bool} (h : vl P (fun i => ((r.getD i 0 : Nat) : Int)) S = 0) {i0 : Nat} (hi : i0 < 10) (h0 : S ((r.getD i0 0 : Nat) : Int) = false) : ∀ i, i < 10 → S ((r.getD i 0 : Nat) : Int) = false := fun i hi' => by
  have hz : ∀ k, k < 5 → diff P (fun i => S ((r.getD i 0 : Nat) : Int)) k = false := b5_inj (b' := fun _ => false) h
  have e := diff_zero T (lab_all T G S) hz
  have e1 := e i hi'
  have e0 := e i0 hi
  exact e1.trans (e0.symm.trans h0)
theorem Msk.add {M : List Nat} {ls : List Int} (h : Msk P (fun i => ((r.getD i 0 : Nat) : Int)) M ls) {l : Int} (hl : l ∉ ls) {i0 i1 : Nat} (hi0 : i0 < 10) (hi1 : i1 < 10) (h0 : ((r.getD i0 0 : Nat) : Int) ∉ l :: ls) (h1 : ((r.getD i1 0 : Nat) : Int) = l) :
    Msk P (fun i => ((r.getD i 0 : Nat) : Int)) (addM P (fun i => ((r.getD i 0 : Nat) : Int)) M l) (l :: ls) := by
  constructor
  · refine List.nodup_append.mpr ⟨h.nodup, List.pairwise_map.mpr (h.nodup.imp fun {a b} hne e => hne (by
      have := congrArg (· ^^^ core P (fun i => ((r.getD i 0 : Nat) : Int)) l) e
      simpa only [xor_can] using this)), fun m hm m' hm' e => ?_⟩
    · subst e
      obtain ⟨u, hu, e⟩ := List.mem_map.mp hm'
      obtain ⟨S, hS, rfl⟩ := (h.mem m).mp hm
      obtain ⟨S', hS', rfl⟩ := (h.mem u).mp hu
      unfold core at e
      rw [vl_xor] at e
      have z : vl P (fun i => ((r.getD i 0 : Nat) : Int)) (fun x => (S' x ^^ decide (x = l)) ^^ S x) = 0 := by
        rw [← vl_xor, e, Nat.xor_self]
      have nf : ∀ {S : Int → Bool} {x : Int}, (∀ l, S l = true → l ∈ ls) → x ∉ ls → S x = false := fun {S x} a b => by
        cases q : S x with
        | false => rfl
        | true => exact absurd (a x q) b
      have h0' : ((r.getD i0 0 : Nat) : Int) ∉ ls := fun q => h0 (List.mem_cons_of_mem _ q)
      have hne : ((r.getD i0 0 : Nat) : Int) ≠ l := fun q => h0 (q ▸ List.mem_cons_self ..)
      have := lab_zero T G z hi0 (by rw [nf hS' h0', nf hS h0', decide_eq_false hne]; rfl) i1 hi1
      rw [h1, nf hS' hl, nf hS hl, decide_eq_true rfl] at this
      cases this
  · intro m
    unfold addM
    rw [List.mem_append, List.mem_map, h.mem]
    constructor
    · rintro (⟨S, hS, rfl⟩ | ⟨u, hu, rfl⟩)
      · exact ⟨S, fun x hx => List.mem_cons_of_mem _ (hS x hx), rfl⟩
      · obtain ⟨S, hS, rfl⟩ := (h.mem u).mp hu
        refine ⟨fun x => S x ^^ decide (x = l), fun x hx => ?_, vl_xor _ _ _ _⟩
        by_cases e : x = l
        · rw [e]; exact List.mem_cons_self ..
        · have hx : (S x ^^ decide (x = l)) = true := hx
          rw [decide_eq_false e, Bool.xor_false] at hx
          exact List.mem_cons_of_mem _ (hS x hx)
    · rintro ⟨S, hS, rfl⟩
      cases q : S l with
      | false =>
        refine .inl ⟨S, fun x hx => ?_, rfl⟩
        rcases List.mem_cons.mp (hS x hx) with e | e
        · rw [e, q] at hx; cases hx
        · exact e
      | true =>
        have e : S = fun x => (S x && !decide (x = l)) ^^ decide (x = l) := funext fun x => by
          by_cases e : x = l
          · subst e; rw [decide_eq_true rfl, q]; rfl
          · rw [decide_eq_false e, Bool.xor_false, Bool.not_false, Bool.and_true]
        refine .inr ⟨vl P _ fun x => S x && !decide (x = l), (h.mem _).mpr ⟨_, fun x hx => ?_, rfl⟩, ?_⟩
        · have hx := Bool.and_eq_true_iff.mp hx
          rcases List.mem_cons.mp (hS x hx.1) with z | z
          · rw [z, decide_eq_true rfl] at hx; cases hx.2
          · exact z
        · unfold core
          rw [vl_xor, ← e]
theorem Msk.all {M : List Nat} {ls : List Int} (h : Msk P (fun i => ((r.getD i 0 : Nat) : Int)) M ls) {i0 : Nat} (hi0 : i0 < 10) : ∀ (l : List Int), (∀ x ∈ l, x ∉ ls) → l.Nodup → (∀ x ∈ l, ∃ i, i < 10 ∧ ((r.getD i 0 : Nat) : Int) = x) → ((r.getD i0 0 : Nat) : Int) ∉ l ++ ls →
    ∃ ls', Msk P (fun i => ((r.getD i 0 : Nat) : Int)) (l.foldl (addM P fun i => ((r.getD i 0 : Nat) : Int)) M) ls' ∧ ∀ x, x ∈ ls' ↔ x ∈ l ∨ x ∈ ls
  | [], _, _, _, _ => ⟨ls, h, fun x => by simp⟩
  | x :: l, h1, h2, h3, h4 => by
    obtain ⟨n1, n2⟩ := List.nodup_cons.mp h2
    obtain ⟨i1, hi1, e1⟩ := h3 x (List.mem_cons_self ..)
    have h4' : ((r.getD i0 0 : Nat) : Int) ∉ x :: ls := fun q => h4 (by
      rcases List.mem_cons.mp q with e | e
      · rw [e]; exact List.mem_cons_self ..
      · exact List.mem_append_right _ e)
    obtain ⟨ls', g1, g2⟩ := Msk.all (h.add T G (h1 x (List.mem_cons_self ..)) hi0 hi1 h4' e1) hi0 l (fun y hy q => by
      rcases List.mem_cons.mp q with e | e
      · exact n1 (e ▸ hy)
      · exact h1 y (List.mem_cons_of_mem _ hy) e) n2 (fun y hy => h3 y (List.mem_cons_of_mem _ hy)) (fun q => by
      rcases List.mem_append.mp q with e | e
      · exact h4 (List.mem_cons_of_mem _ (List.mem_append_left _ e))
      · exact h4' e)
    refine ⟨ls', g1, fun y => ?_⟩
    rw [g2, List.mem_cons, List.mem_cons]
    exact ⟨fun z => z.elim (fun z => .inl (.inr z)) fun z => z.elim (fun z => .inl (.inl z)) .inr, fun z => z.elim (fun z => z.elim (fun z => .inr (.inl z)) .inl) fun z => .inr (.inr z)⟩
omit T G in
theorem msk_0 (P : Nat → Nat) (R : Nat → Int) : Msk P R [0] [] := by
  have e0 : vl P R (fun _ => false) = 0 := by
    unfold vl
    exact b5_congr (b' := fun _ => false) fun k _ => rfl
  refine ⟨List.nodup_cons.mpr ⟨List.not_mem_nil, .nil⟩, fun m => ⟨fun h => ⟨fun _ => false, fun l hl => (nomatch hl), (List.mem_singleton.mp h).trans e0.symm⟩, fun ⟨S, hS, e⟩ => ?_⟩⟩
  have : S = fun _ => false := funext fun x => by
    cases q : S x with
    | false => rfl
    | true => exact absurd (hS x q) List.not_mem_nil
  rw [e, this, e0]; exact List.mem_singleton.mpr rfl
theorem sets_even {l0 : Int} {ls : List Int} (hn : (l0 :: ls).Nodup) (hm : ∀ x, x ∈ l0 :: ls ↔ ∃ i, i < 10 ∧ ((r.getD i 0 : Nat) : Int) = x) :
    (ls.foldl (addM P fun i => ((r.getD i 0 : Nat) : Int)) [0]).Nodup ∧ ∀ m, m ∈ ls.foldl (addM P fun i => ((r.getD i 0 : Nat) : Int)) [0] ↔ m < 32 ∧ ∀ k, k < 5 → cnd (κ k) (bt m k) (x5 fun l => crX P Q k l && bt m l) = true := by
  obtain ⟨n1, n2⟩ := List.nodup_cons.mp hn
  obtain ⟨i0, hi0, e0⟩ := (hm l0).mp (List.mem_cons_self ..)
  obtain ⟨ls', g1, g2⟩ := (msk_0 P fun i => ((r.getD i 0 : Nat) : Int)).all T G hi0 ls (fun _ _ => List.not_mem_nil) n2 (fun x hx => (hm x).mp (List.mem_cons_of_mem _ hx)) (by rw [List.append_nil, e0]; exact n1)
  refine ⟨g1.nodup, fun m => ?_⟩
  rw [g1.mem]
  constructor
  · rintro ⟨S, hS, rfl⟩
    refine ⟨b5_lt _, fun k hk => ?_⟩
    have := even_iff T (lab_all T G S) k hk
    unfold vl
    rw [b5_bt _ hk, x5_congr fun l hl => by rw [b5_bt _ hl]]
    exact this
  · rintro ⟨hlt, hc⟩
    have hA := (even_pre T (κ := κ) (bt m)).mpr hc
    have hind := G.ind _ hA
    -- a label's bit
    let f : Nat → Bool := fun i => pre w (bt m) (i % 10)
    have hf : ∀ i j, i < 10 → j < 10 → r.getD i 0 = r.getD j 0 → f i = f j := hind
    let S : Int → Bool := fun x => (List.range 10).any fun i => decide (((r.getD i 0 : Nat) : Int) = x) && (f i ^^ f i0)
    have hS : ∀ i, i < 10 → S ((r.getD i 0 : Nat) : Int) = (f i ^^ f i0) := fun i hi => by
      cases q : (f i ^^ f i0) with
      | true => exact List.any_eq_true.mpr ⟨i, List.mem_range.mpr hi, by rw [decide_eq_true rfl, q]; rfl⟩
      | false =>
        cases q2 : S ((r.getD i 0 : Nat) : Int) with
        | false => rfl
        | true =>
          obtain ⟨j, hj, e⟩ := List.any_eq_true.mp q2
          have e := Bool.and_eq_true_iff.mp e
          have ej := of_decide_eq_true e.1
          rw [hf j i (List.mem_range.mp hj) hi (Int.ofNat.inj ej), q] at e
          cases e.2
    refine ⟨S, fun x hx => ?_, ?_⟩
    · rw [g2]
      refine .inl ?_
      obtain ⟨j, hj, e⟩ := List.any_eq_true.mp hx
      have e := Bool.and_eq_true_iff.mp e
      have ej := of_decide_eq_true e.1
      rcases List.mem_cons.mp ((hm x).mpr ⟨j, List.mem_range.mp hj, ej⟩) with z | z
      · rw [z, ← e0] at ej
        rw [hf j i0 (List.mem_range.mp hj) hi0 (Int.ofNat.inj ej), Bool.xor_self] at e
        cases e.2
      · exact z
    · rw [← b5_of m hlt]
      refine b5_congr fun k hk => ?_
      have o := T.occ k hk
      have hp : P k + 1 < 10 := Nat.lt_of_le_of_lt o.lt (T.len ▸ o.len)
      rw [← diff_pre T (bt m) hk]
      show _ = (S ((r.getD (P k) 0 : Nat) : Int) ^^ S ((r.getD (P k + 1) 0 : Nat) : Int))
      rw [hS _ (Nat.lt_of_succ_lt hp), hS _ hp]
      have x : ∀ a b c : Bool, (a ^^ b) = ((a ^^ c) ^^ (b ^^ c)) := by decide
      exact x _ _ _
end
end

section
open PySem
set_option backward.match.sparseCases false
set_option maxRecDepth 100000
set_option maxHeartbeats 4000000
set_option linter.unusedVariables false
noncomputable def n_number9 : Str := ⟨#[110, 117, 109, 98, 101, 114]⟩
noncomputable def n_octets9 : Str := ⟨#[111, 99, 116, 101, 116, 115]⟩
noncomputable def dg (n : Nat) : Nat → List Nat
  | 0 => []
  | j + 1 => (cond (Nat.beq j 0) (n % 64) (64 + n / 64 ^ j % 64)) :: dg n j
noncomputable def OctS (m : Nat) (i : Nat) (L : List Nat) (σ : S) : Prop := L.reverse = dg m (i + 1) ∧ L.length = i + 1 ∧ i ≤ 50 ∧ σ = ⟨[(n_number9, .val (nV (m / 64 ^ i))), (n_octets9, .plc 0)], [some (.lst (L.map nV))]⟩
theorem octets_run (n m j : Nat) (hj : j ≤ 50) (h1 : ∀ i, i < j → 63 < m / 64 ^ i) (h2 : m / 64 ^ j ≤ 63) : (run g2 (n + 20)).call [] n_law_octets [.val (nV m)] = .ok (.list ((dg m (j + 1)).map nV)) ⟨[], []⟩ := by
  (apply call_e; rfl; rfl; wtm_at "w"; wtm_at "w")
  apply en_cons; wtm_at "x"
  apply en_pass
  · apply ps_while
    refine pw_fold (OctS m) (fun i _ => decide ((63 : Int) < ((m / 64 ^ i : Nat) : Int))) (fun i L => L ++ [64 + m / 64 ^ i / 64 % 64]) ?_ ?_ j 0 [m % 64] _ 100 (by omega) ⟨rfl, rfl, by decide, ?_⟩ ?_ ?_
    · rintro i L σ ⟨hL, hl, hi, rfl⟩
      wtm_at "x"
    · rintro i L σ ⟨hL, hl, hi, rfl⟩ hc
      have hc := of_decide_eq_true hc
      have hij : i < j := by
        rcases Nat.lt_or_ge i j with z | z
        · exact z
        · have : m / 64 ^ i ≤ m / 64 ^ j := Nat.div_le_div_left (Nat.pow_le_pow_right (by decide) z) (Nat.pow_pos (by decide))
          omega
      have hLm : (L.map nV).length ≤ 100 := by rw [List.length_map]; omega
      have e1 : m / 64 ^ i / 64 = m / 64 ^ (i + 1) := by rw [Nat.div_div_eq_div_mul, Nat.pow_succ]
      have e2 : L.map nV ++ [nV (64 + m / 64 ^ i / 64 % 64)] = (L ++ [64 + m / 64 ^ i / 64 % 64]).map nV := by rw [List.map_append]; rfl
      apply ps_blk; apply ps_cons; wtm_at "x"; apply ps_cons; wtm_at "x"; apply ps_nil
      refine ⟨?_, by rw [List.length_append, hl]; rfl, by omega, ?_⟩
      · rw [List.reverse_append, hL]
        show (64 + m / 64 ^ i / 64 % 64) :: dg m (i + 1) = (cond (Nat.beq (i + 1) 0) (m % 64) (64 + m / 64 ^ (i + 1) % 64)) :: dg m (i + 1)
        rw [e1]; rfl
      · rw [← e2, ← e1]
        rfl
    · show (⟨_, _⟩ : S) = _
      rw [Nat.pow_zero, Nat.div_one]; rfl
    · intro i' a' _ h; exact decide_eq_true (by have := h1 i' (by omega); omega)
    · intro a'; exact decide_eq_false (by rw [Nat.zero_add]; omega)
  · rintro σ ⟨L, hL, hl, hi, rfl⟩
    have hLm : (L.map nV).length ≤ 100 := by rw [List.length_map]; omega
    rw [Nat.zero_add] at hL
    apply en_ret; apply st_ret; apply ex_slicel
    · wtm_at "x"
    · wtm_at "x"
    · wtm_at "x"
    · apply part_some; (with_reducible apply ex_neg); rfl
    · wtm_at "g"
    · rfl
    · rw [← hL, ← pick_rev L]
      exact pick_map nV L none none (some (-1))
end

section
open PySem
set_option backward.match.sparseCases false
set_option maxRecDepth 100000
set_option maxHeartbeats 4000000
set_option linter.unusedVariables false
noncomputable def n_iterator : Str := ⟨#[105, 116, 101, 114, 97, 116, 111, 114]⟩
noncomputable def n_b : Str := ⟨#[98]⟩
noncomputable def n_val : Str := ⟨#[118, 97, 108]⟩
noncomputable def dig (m j : Nat) : Nat := cond (Nat.beq j 0) (m % 64) (64 + m / 64 ^ j % 64)
theorem dg_s (m j : Nat) : dg m (j + 1) = dig m j :: dg m j := rfl
noncomputable def ParS (m j : Nat) (rest ks vs : List V) (i : Nat) (_ : Unit) (σ : S) : Prop := i ≤ j ∧ σ = ⟨[(n_iterator, .plc 0), (n_b, .val (nV (dig m (j - i)))), (n_val, .val (nV (m / 64 ^ (j - i))))], [some (.itr ((dg m (j - i)).map nV ++ rest)), some (.dct ks vs)]⟩
theorem dig_and : ∀ x, x < 64 → (x &&& 63 = x ∧ x &&& 64 = 0 ∧ (64 + x) &&& 63 = x ∧ (64 + x) &&& 64 = 64) := by decide +kernel
theorem dig_low (m j : Nat) : dig m j &&& 63 = m / 64 ^ j % 64 := by
  unfold dig
  cases j with
  | zero =>
    rw [Nat.pow_zero, Nat.div_one]
    exact (dig_and _ (Nat.mod_lt _ (by decide))).1
  | succ j => exact (dig_and _ (Nat.mod_lt _ (by decide))).2.2.1
theorem dig_flag (m j : Nat) : Nat.beq (dig m j &&& 64) 0 = Nat.beq j 0 := by
  unfold dig
  cases j with
  | zero => rw [show cond (Nat.beq 0 0) (m % 64) (64 + m / 64 ^ 0 % 64) = m % 64 from rfl, (dig_and _ (Nat.mod_lt _ (by decide))).2.1]
  | succ j => rw [show cond (Nat.beq (j + 1) 0) (m % 64) (64 + m / 64 ^ (j + 1) % 64) = 64 + m / 64 ^ (j + 1) % 64 from rfl, (dig_and _ (Nat.mod_lt _ (by decide))).2.2.2]; rfl
theorem dig_join (m r : Nat) : m / 64 ^ (r + 1) * 2 ^ 6 ||| m / 64 ^ r % 64 = m / 64 ^ r := by
  have e : m / 64 ^ (r + 1) = m / 64 ^ r / 64 := by rw [Nat.div_div_eq_div_mul, Nat.pow_succ]
  rw [e, ← Nat.shiftLeft_eq, ← Nat.shiftLeft_add_eq_or_of_lt (Nat.mod_lt _ (by decide)), Nat.shiftLeft_eq]
  omega
theorem parse_run (n m j : Nat) (hm : m ≤ 9223372036854775807) (hj : j ≤ 50) (h2 : m / 64 ^ j ≤ 63) (rest ks vs : List V) :
    (run g2 (n + 20)).call [some (.itr ((dg m (j + 1)).map nV ++ rest)), some (.dct ks vs)] n_parse_varint [.plc 0] = .ok (nV m) ⟨[], [some (.itr rest), some (.dct ks vs)]⟩ := by
  rw [dg_s]
  apply ok_eq (a := nV (m / 64 ^ 0)) ?_ (by rw [Nat.pow_zero, Nat.div_one])
  apply call_p; rfl; rfl; wtm_at "w"; rfl
  · apply ep_cons; (apply st_set; rfl; (apply ex_next; rfl; rfl; wtm_at "x"; rfl; wtm_at "w"); wtm_at "w")
    apply ep_cons; wtm_at "x"
    apply ep_pass
    · apply ps_while
      refine pw_fold (ParS m j rest ks vs) (fun i _ => decide (i < j)) (fun _ _ => ()) ?_ ?_ j 0 () _ 100 (by omega) ⟨Nat.zero_le _, ?_⟩ (fun i' a' _ h => decide_eq_true (by omega)) (fun a' => decide_eq_false (by omega))
      · rintro i - σ ⟨hi, rfl⟩
        have e : (!Nat.beq (dig m (j - i) &&& 64) 0) = decide (i < j) := by
          rw [dig_flag]
          cases q : Nat.beq (j - i) 0 with
          | true => have := Nat.eq_of_beq_eq_true q; exact (decide_eq_false (by omega)).symm
          | false => have := Nat.ne_of_beq_eq_false q; exact (decide_eq_true (by omega)).symm
        rw [← e]
        apply tr_bin; wtm_at "x"; exact tr_int rfl
      · rintro i - σ ⟨hi, rfl⟩ hc
        have hc := of_decide_eq_true hc
        obtain ⟨r, hr⟩ : ∃ r, j - i = r + 1 := ⟨j - i - 1, by omega⟩
        have hr' : j - (i + 1) = r := by omega
        have hs : m / 64 ^ (r + 1) ≤ 9223372036854775807 := Nat.le_trans (Nat.div_le_self _ _) hm
        rw [hr, dg_s]
        apply ps_blk; apply ps_cons; wtm_at "x"; apply ps_cons; wtm_at "x"; apply ps_cons; wtm_at "x"; apply ps_nil
        refine ⟨by omega, ?_⟩
        rw [hr', ← dig_join m r, ← dig_low m r]
        rfl
      · show (⟨_, _⟩ : S) = _
        rw [Nat.sub_zero]
        have e : m / 64 ^ j = dig m j &&& 63 := by rw [dig_low]; exact (Nat.mod_eq_of_lt (by omega)).symm
        rw [e]
        rfl
    · rintro σ ⟨-, hi, rfl⟩
      rw [Nat.zero_add, Nat.sub_self]
      apply ep_ret; wtm_at "x"
      rfl
  · rfl
  · rfl
theorem parse_exc (n : Nat) (ks vs : List V) : (run g2 (n + 20)).call [some (.itr []), some (.dct ks vs)] n_parse_varint [.plc 0] = .exc ⟨[], [none, some (.dct ks vs)]⟩ := by
  apply call_pX; rfl; rfl; wtm_at "w"; rfl
  · apply Exists.intro; apply And.intro
    · apply sts_exc; apply st_setX; rfl; apply ex_nextX; rfl; rfl; wtm_at "x"; rfl; wtm_at "w"
    · rfl
  · rfl
  · rfl
end

section
open PySem
set_option backward.match.sparseCases false
set_option maxRecDepth 100000
set_option maxHeartbeats 400000
set_option linter.unusedVariables false
noncomputable def n_x : Str := ⟨#[120]⟩
noncomputable def n_k : Str := ⟨#[107]⟩
noncomputable def modN (x : Int) : Nat := (x.fmod 1000000).toNat
theorem modN_eq (x : Int) : x.fmod 1000000 = ((modN x : Nat) : Int) := by
  unfold modN
  rw [Int.fmod_eq_emod_of_nonneg _ (by decide)]
  omega
theorem modN_lt (x : Int) : modN x < 1000000 := by
  unfold modN
  rw [Int.fmod_eq_emod_of_nonneg _ (by decide)]
  omega
theorem sum_cast : ∀ l : List Nat, (l.map fun (d : Nat) => (d : Int)).sum = ((l.sum : Nat) : Int)
  | [] => rfl
  | d :: l => by rw [List.map_cons, List.sum_cons, List.sum_cons, sum_cast l]; simp
noncomputable def baseN (k : Nat) : Nat := [5, 7, 7, 1, 14].getD k 0
noncomputable def drawN (xs : List Int) (k : Nat) : Nat := baseN k + (pickG (xs.map modN) (some (k : Int)) none (some 5)).sum
theorem sum_bound : ∀ (l : List Nat) (b : Nat), (∀ x ∈ l, x ≤ b) → l.sum ≤ l.length * b
  | [], _, _ => Nat.zero_le _
  | x :: l, b, h => by
    have h1 := h x (List.mem_cons_self ..)
    have h2 := sum_bound l b fun y hy => h y (List.mem_cons_of_mem _ hy)
    rw [List.sum_cons, List.length_cons, Nat.succ_mul]
    omega
theorem pickG_mem {α : Type} {l : List α} {lo hi st : Option Int} {x : α} (h : x ∈ pickG l lo hi st) : x ∈ l := by
  unfold pickG at h
  obtain ⟨i, _, hi⟩ := List.mem_filterMap.mp h
  exact List.mem_of_getElem? hi
theorem pickG_len {α : Type} (l : List α) (k : Nat) : (pickG l (some (k : Int)) none (some 5)).length ≤ l.length := by
  unfold pickG
  refine Nat.le_trans (List.length_filterMap_le ..) (sliceRange_length_le _ _ _ _ (fun _ => ?_) (fun h => ?_))
  · unfold sliceBounds
    simp only [Option.getD_some, show (5 : Int) > 0 by decide, if_true]
    constructor
    · omega
    · exact Int.le_refl _
  · unfold sliceBounds at h
    simp at h
theorem drawN_le {xs : List Int} (h : xs.length ≤ 63) {k : Nat} (hk : k < 5) : drawN xs k ≤ 63000014 := by
  unfold drawN
  have h1 : (pickG (xs.map modN) (some (k : Int)) none (some 5)).sum ≤ 63 * 1000000 := by
    refine Nat.le_trans (sum_bound _ 1000000 fun x hx => ?_) (Nat.mul_le_mul_right _ ?_)
    · obtain ⟨y, _, rfl⟩ := List.mem_map.mp (pickG_mem hx)
      exact Nat.le_of_lt (modN_lt y)
    · exact Nat.le_trans (pickG_len _ k) (by rw [List.length_map]; exact h)
  have h2 : ∀ k, k < 5 → baseN k ≤ 14 := by decide
  have := h2 k hk
  omega
theorem bf_sumn (l : List Nat) : bfun .sum (.list (l.map nV)) = some (.int ((l.sum : Nat) : Int)) := by rw [bf_sum (intsOf_nV l), sum_cast]
theorem base_at : ∀ k, k < 5 → ([V.int 5, V.int 7, V.int 7, V.int 1, V.int 14] : List V)[k]? = some (.int ((baseN k : Nat) : Int))
  | 0, _ => rfl
  | 1, _ => rfl
  | 2, _ => rfl
  | 3, _ => rfl
  | 4, _ => rfl
  | _ + 5, h => absurd h (by omega)
theorem modV (x : Int) : V.int (x.fmod 1000000) = nV (modN x) := congrArg V.int (modN_eq x)
noncomputable def GivI (σ : S) : Prop := σ = ⟨[], [some (.cell none)]⟩ ∨ ∃ a, σ = ⟨[(n_x, a)], [some (.cell none)]⟩
theorem drawn_run (n : Nat) (xs : List Int) (hx : xs.length ≤ 63) :
    (run g2 (n + 30)).call [] n_law_drawn [.val (.list (xs.map V.int))] = .ok (.list ([0, 1, 2, 3, 4].map fun k => nV (drawN xs k))) ⟨[], []⟩ := by
  have hxl : (xs.map V.int).length ≤ 63 := by rw [List.length_map]; exact hx
  have hyl : ((xs.map modN).map nV).length ≤ 63 := by rw [List.length_map, List.length_map]; exact hx
  have ey : (xs.map modN).map nV = xs.map (fun x => nV (modN x)) := by rw [List.map_map]; rfl
  (apply call_e; rfl; rfl; wtm_at "w"; wtm_at "w")
  apply en_cons
  · apply st_setC
    · apply comp_e (m₂ := [some (.cell none)]) (ys := (xs.map modN).map nV); rfl; rfl; (apply src_e; rfl; (intro _ _ _ _ h; cases h); wtm_at "x"; rfl); wtm_at "w"; wtm_at "w"
      · rw [ey]
        refine turns_foldM V.int (fun x => nV (modN x)) (fun _ => True) GivI ?_ ?_ xs (fun _ _ => trivial) (.inl rfl)
        · rintro σ (rfl | ⟨a, rfl⟩) <;> rfl
        · rintro x σ hσ -
          rcases hσ with rfl | ⟨a, rfl⟩
          all_goals
            apply Exists.intro; apply And.intro; wtm_at "w"
            apply Exists.intro; apply And.intro; (apply okv_eq; (apply ex_bin; wtm_at "x"; wtm_at "x"; (apply bo_modc; decide)); exact modV x)
            exact .inr ⟨_, rfl⟩
      · wtm_at "g"
      · wtm_at "w"
      · rfl
    · wtm_at "w"
  apply en_ret; apply st_ret; apply ex_lcomp; apply comp_e (m₂ := [some (.cell (some (.val (.list ((xs.map modN).map nV)))))]); rfl; rfl; wtm_at "x"; wtm_at "w"; wtm_at "w"
  · refine turns_foldM nV (fun k => nV (drawN xs k)) (fun k => k < 5) (fun σ => σ = ⟨[], [some (.cell (some (.val (.list ((xs.map modN).map nV)))))]⟩ ∨ ∃ a, σ = ⟨[(n_k, a)], [some (.cell (some (.val (.list ((xs.map modN).map nV)))))]⟩) ?_ ?_ [0, 1, 2, 3, 4] (by decide) (.inl rfl)
    · rintro σ (rfl | ⟨a, rfl⟩) <;> rfl
    · rintro k σ hσ hk
      have hkb : Nat.ble k 1000000 = true := Nat.ble_eq_true_of_le (by omega)
      have hb := base_at k hk
      rcases hσ with rfl | ⟨a, rfl⟩
      all_goals
        apply Exists.intro; apply And.intro; wtm_at "w"
        apply Exists.intro; apply And.intro; (apply ex_bin; wtm_at "x"; wtm_at "x"; (apply bo_addn; rfl; rfl))
        exact .inr ⟨_, rfl⟩
  · rfl
  · wtm_at "w"
  · rfl
end

section
open PySem
set_option backward.match.sparseCases false
set_option maxRecDepth 100000
set_option maxHeartbeats 400000
set_option linter.unusedVariables false
noncomputable def n_drawn12 : Str := ⟨#[100, 114, 97, 119, 110]⟩
noncomputable def n_trip12 : Str := ⟨#[116, 114, 105, 112]⟩
noncomputable def n_k12 : Str := ⟨#[107]⟩
noncomputable def n_gap12 : Str := ⟨#[103, 97, 112]⟩
noncomputable abbrev drV (D : Nat → Nat) : List V := [nV (D 0), nV (D 1), nV (D 2), nV (D 3), nV (D 4)]
theorem drV_at (D : Nat → Nat) : ∀ k, k < 5 → (drV D)[k]? = some (.int ((D k : Nat) : Int))
  | 0, _ => rfl
  | 1, _ => rfl
  | 2, _ => rfl
  | 3, _ => rfl
  | 4, _ => rfl
  | _ + 5, h => absurd h (by omega)
noncomputable def stepTr (D : Nat → Nat) (w : List Nat) (k : Nat) : List Nat := k :: (w.take (D k % (2 * k + 1)) ++ k :: w.drop (D k % (2 * k + 1)))
noncomputable def tripW (D : Nat → Nat) : List Nat := [0, 1, 2, 3, 4].foldl (stepTr D) []
structure TripTo (w : List Nat) (i : Nat) : Prop where
  len : w.length = 2 * i
  lt : ∀ x ∈ w, x < i
  occ : ∀ k, k < i → ∃ p q, Occ w k p q
noncomputable def up (g x : Nat) : Nat := if x < g then x + 1 else x + 2
theorem up_lo {g x : Nat} (h : x < g) : up g x = x + 1 := if_pos h
theorem up_hi {g x : Nat} (h : g ≤ x) : up g x = x + 2 := if_neg (Nat.not_lt.mpr h)
theorem up_lt {g x y : Nat} (h : x < y) : up g x < up g y := by
  rcases Nat.lt_or_ge y g with a | a
  · rw [up_lo a, up_lo (Nat.lt_trans h a)]; exact Nat.succ_lt_succ h
  · rw [up_hi a]
    rcases Nat.lt_or_ge x g with b | b
    · rw [up_lo b]; exact Nat.lt_succ_of_lt (Nat.succ_lt_succ h)
    · rw [up_hi b]; exact Nat.succ_lt_succ (Nat.succ_lt_succ h)
theorem up_le (g x : Nat) : up g x ≤ x + 2 := by
  rcases Nat.lt_or_ge x g with b | b
  · rw [up_lo b]; exact Nat.le_succ _
  · rw [up_hi b]; exact Nat.le_refl _
theorem step_up {w : List Nat} {k g : Nat} (hg : g ≤ w.length) (y : Nat) : (k :: (w.take g ++ k :: w.drop g))[up g y]? = w[y]? := by
  have e : (w.take g).length = g := List.length_take_of_le hg
  rcases Nat.lt_or_ge y g with a | a
  · rw [up_lo a, List.getElem?_cons_succ, List.getElem?_append_left (e.symm ▸ a), List.getElem?_take_of_lt a]
  · rw [up_hi a, List.getElem?_cons_succ, List.getElem?_append_right (e.symm ▸ Nat.le_succ_of_le a), e, Nat.succ_sub a, List.getElem?_cons_succ, List.getElem?_drop, Nat.add_sub_of_le a]
theorem step_mid {w : List Nat} {k g : Nat} (hg : g ≤ w.length) : (k :: (w.take g ++ k :: w.drop g))[g + 1]? = some k := by
  have e : (w.take g).length = g := List.length_take_of_le hg
  rw [List.getElem?_cons_succ, List.getElem?_append_right (e.symm ▸ Nat.le_refl _), e, Nat.sub_self]; rfl
theorem up_all (g x : Nat) : x = 0 ∨ x = g + 1 ∨ ∃ y, x = up g y := by
  cases x with
  | zero => exact .inl rfl
  | succ x =>
    rcases Nat.lt_trichotomy x g with a | a | a
    · exact .inr (.inr ⟨x, (up_lo a).symm⟩)
    · exact .inr (.inl (congrArg _ a))
    · cases x with
      | zero => exact absurd a (Nat.not_lt_zero _)
      | succ x => exact .inr (.inr ⟨x, (up_hi (Nat.le_of_lt_succ a)).symm⟩)
theorem step_len {w : List Nat} {k g : Nat} (hg : g ≤ w.length) : (k :: (w.take g ++ k :: w.drop g)).length = w.length + 2 := by
  rw [List.length_cons, List.length_append, List.length_cons, List.length_take_of_le hg, List.length_drop, ← Nat.add_assoc, Nat.add_sub_of_le hg]
theorem occ_new {w : List Nat} {k g : Nat} (hg : g ≤ w.length) (nk : ∀ y : Nat, w[y]? ≠ some k) : Occ (k :: (w.take g ++ k :: w.drop g)) k 0 (g + 1) := by
  refine ⟨Nat.succ_pos _, by rw [step_len hg]; exact Nat.succ_lt_succ (Nat.lt_succ_of_le hg), rfl, step_mid hg, fun i hi => ?_⟩
  rcases up_all g i with z | z | ⟨y, rfl⟩
  · exact .inl z
  · exact .inr z
  · rw [step_up hg] at hi; exact absurd hi (nk _)
theorem occ_up {w : List Nat} {k g j p q : Nat} (hg : g ≤ w.length) (e : j ≠ k) (o : Occ w j p q) : Occ (k :: (w.take g ++ k :: w.drop g)) j (up g p) (up g q) := by
  refine ⟨up_lt o.lt, by rw [step_len hg]; exact Nat.lt_of_le_of_lt (up_le g q) (Nat.add_lt_add_right o.len 2), (step_up hg _).trans o.at1, (step_up hg _).trans o.at2, fun i hi => ?_⟩
  rcases up_all g i with rfl | rfl | ⟨y, rfl⟩
  · exact absurd (Option.some.inj hi).symm e
  · rw [step_mid hg] at hi; exact absurd (Option.some.inj hi).symm e
  · rw [step_up hg] at hi
    rcases o.no y hi with z | z
    · exact .inl (congrArg _ z)
    · exact .inr (congrArg _ z)
theorem TripTo.gap {w : List Nat} {k : Nat} (h : TripTo w k) (D : Nat → Nat) : D k % (2 * k + 1) ≤ w.length := h.len ▸ Nat.le_of_lt_succ (Nat.mod_lt (D k) (Nat.succ_pos _))
theorem TripTo.nk {w : List Nat} {k : Nat} (h : TripTo w k) : ∀ y : Nat, w[y]? ≠ some k := fun y e => Nat.lt_irrefl _ (h.lt k (List.mem_of_getElem? e))
theorem TripTo.step {w : List Nat} {k : Nat} (h : TripTo w k) (D : Nat → Nat) : TripTo (stepTr D w k) (k + 1) := by
  have hl := h.len
  have hg := h.gap D
  unfold stepTr
  generalize D k % (2 * k + 1) = g at hg
  refine ⟨by rw [step_len hg, hl]; rfl, fun x hx => ?_, fun j hj => ?_⟩
  · rcases List.mem_cons.mp hx with rfl | hx
    · exact Nat.lt_succ_self _
    · rcases List.mem_append.mp hx with hx | hx
      · exact Nat.lt_succ_of_lt (h.lt x (List.mem_of_mem_take hx))
      · rcases List.mem_cons.mp hx with rfl | hx
        · exact Nat.lt_succ_self _
        · exact Nat.lt_succ_of_lt (h.lt x (List.mem_of_mem_drop hx))
  · by_cases e : j = k
    · subst e; exact ⟨0, g + 1, occ_new hg h.nk⟩
    · obtain ⟨p, q, o⟩ := h.occ j (Nat.lt_of_le_of_ne (Nat.le_of_lt_succ hj) e)
      exact ⟨_, _, occ_up hg e o⟩
theorem Occ.uniq {w : List Nat} {k p q p' q' : Nat} (o : Occ w k p q) (o' : Occ w k p' q') : p = p' := by
  rcases o.no p' o'.at1 with e | e
  · exact e.symm
  · rcases o.no q' o'.at2 with z | z
    · exact absurd (z ▸ e ▸ o'.lt) (Nat.lt_asymm o.lt)
    · exact absurd (z ▸ e ▸ o'.lt) (Nat.lt_irrefl _)
noncomputable def Fst (w : List Nat) (i : Nat) : Prop := ∀ a b p q r s, a < b → b < i → Occ w a p q → Occ w b r s → r < p
theorem Fst.step {w : List Nat} {k : Nat} (h : TripTo w k) (f : Fst w k) (D : Nat → Nat) : Fst (stepTr D w k) (k + 1) := by
  intro a b p q r s hab hb oa ob
  have hg := h.gap D
  unfold stepTr at oa ob
  generalize D k % (2 * k + 1) = g at hg oa ob
  have hbk := Nat.le_of_lt_succ hb
  have hak : a < k := Nat.lt_of_lt_of_le hab hbk
  obtain ⟨p', q', o'⟩ := h.occ a hak
  have e1 := oa.uniq (occ_up hg (Nat.ne_of_lt hak) o')
  by_cases e : b = k
  · subst e
    rw [ob.uniq (occ_new hg h.nk), e1]
    rcases Nat.lt_or_ge p' g with z | z
    · rw [up_lo z]; exact Nat.succ_pos _
    · rw [up_hi z]; exact Nat.succ_pos _
  · have hbk' := Nat.lt_of_le_of_ne hbk e
    obtain ⟨r', s', o2⟩ := h.occ b hbk'
    rw [e1, ob.uniq (occ_up hg e o2)]
    exact up_lt (f a b p' q' r' s' hab hbk' o' o2)
theorem tripW_good (D : Nat → Nat) : Good5 (tripW D) := by
  have h0 : TripTo [] 0 := ⟨rfl, fun x hx => (by cases hx), fun k hk => absurd hk (by omega)⟩
  have h := ((((h0.step D).step D).step D).step D).step D
  exact ⟨h.len, h.lt, h.occ⟩
theorem tripW_fst (D : Nat → Nat) : Fst (tripW D) 5 := by
  have h0 : TripTo [] 0 := ⟨rfl, fun x hx => (by cases hx), fun k hk => absurd hk (by omega)⟩
  have f0 : Fst [] 0 := fun a b p q r s _ hb => absurd hb (by omega)
  have h1 := h0.step D
  have f1 := f0.step h0 D
  have h2 := h1.step D
  have f2 := f1.step h1 D
  have h3 := h2.step D
  have f3 := f2.step h2 D
  have h4 := h3.step D
  have f4 := f3.step h3 D
  exact f4.step h4 D
noncomputable def TriS (D : Nat → Nat) (i : Nat) (w : List Nat) (σ : S) : Prop :=
  TripTo w i ∧ i ≤ 5 ∧ (σ = ⟨[(n_drawn12, .val (.list (drV D))), (n_trip12, .plc 0)], [some (.lst (w.map nV))]⟩ ∨ ∃ x y, σ = ⟨[(n_drawn12, .val (.list (drV D))), (n_trip12, .val (.list (w.map nV))), (n_k12, x), (n_gap12, y)], [none]⟩)
theorem trip_run (n : Nat) (D : Nat → Nat) : (run g2 (n + 30)).call [] n_law_trip [.val (.list (drV D))] = .ok (.list ((tripW D).map nV)) ⟨[], []⟩ := by
  (apply call_e; rfl; rfl; wtm_at "w"; wtm_at "w")
  apply en_cons; wtm_at "x"
  apply en_pass (P := TriS D 5 (tripW D))
  · apply ps_for
    · wtm_at "x"
    · apply pf_eq (xs' := (List.range' 0 5).map nV); rfl
      refine pf_range 5 nV (stepTr D) (TriS D) ?_ 5 0 [] _ (by decide) ⟨⟨rfl, fun x hx => (by cases hx), fun k hk => absurd hk (by omega)⟩, by decide, .inl rfl⟩
      rintro i w σ hi ⟨hp, -, hσ⟩
      have hl := hp.len
      have hib : Nat.ble i 1000000 = true := Nat.ble_eq_true_of_le (by omega)
      have hd := drV_at D i (by omega)
      have hg : D i % (2 * i + 1) ≤ w.length := by have := Nat.mod_lt (D i) (show 2 * i + 1 > 0 by omega); omega
      have hwl : (w.map nV).length ≤ 10 := by rw [List.length_map]; omega
      have htl : ((w.take (D i % (2 * i + 1))).map nV).length ≤ 10 := by rw [List.length_map, List.length_take]; omega
      have hdl : ((w.drop (D i % (2 * i + 1))).map nV).length ≤ 10 := by rw [List.length_map, List.length_drop]; omega
      have hv : [nV i] ++ (w.take (D i % (2 * i + 1))).map nV ++ [nV i] ++ (w.drop (D i % (2 * i + 1))).map nV = (stepTr D w i).map nV := by
        unfold stepTr; simp
      rcases hσ with rfl | ⟨x, y, rfl⟩
      all_goals
        apply Exists.intro; apply And.intro; wtm_at "w"
        apply ps_blk; apply ps_cons; wtm_at "x"; apply ps_cons; wtm_at "x"; apply ps_nil
        exact ⟨hp.step D, by omega, .inr ⟨_, _, by rw [← hv]; rfl⟩⟩
  · rintro σ ⟨hp, -, hσ⟩
    rcases hσ with rfl | ⟨x, y, rfl⟩
    all_goals apply en_ret; wtm_at "x"
end

section
open PySem
set_option backward.match.sparseCases false
set_option maxRecDepth 100000
set_option maxHeartbeats 400000
set_option linter.unusedVariables false
noncomputable def octJ (b : Nat) : Nat := if b < 64 then 0 else if b < 4096 then 1 else if b < 262144 then 2 else if b < 16777216 then 3 else 4
theorem octJ_spec {b : Nat} (h : b < 1073741824) : (∀ i, i < octJ b → 63 < b / 64 ^ i) ∧ b / 64 ^ octJ b ≤ 63 ∧ octJ b ≤ 4 := by
  unfold octJ
  have p0 : 64 ^ 0 = 1 := rfl
  have p1 : 64 ^ 1 = 64 := rfl
  have p2 : 64 ^ 2 = 4096 := rfl
  have p3 : 64 ^ 3 = 262144 := rfl
  have p4 : 64 ^ 4 = 16777216 := rfl
  refine ⟨fun i hi => ?_, ?_, ?_⟩
  · have h4 : i < 4 := by
      split at hi
      · omega
      · split at hi
        · omega
        · split at hi
          · omega
          · split at hi <;> omega
    have : i = 0 ∨ i = 1 ∨ i = 2 ∨ i = 3 := by omega
    rcases this with rfl | rfl | rfl | rfl
    · rw [p0]; split at hi <;> omega
    · rw [p1]
      split at hi
      · omega
      · split at hi <;> omega
    · rw [p2]
      split at hi
      · omega
      · split at hi
        · omega
        · split at hi <;> omega
    · rw [p3]
      split at hi
      · omega
      · split at hi
        · omega
        · split at hi
          · omega
          · split at hi <;> omega
  · split
    · rw [p0]; omega
    · split
      · rw [p1]; omega
      · split
        · rw [p2]; omega
        · split
          · rw [p3]; omega
          · rw [p4]; omega
  · split
    · omega
    · split
      · omega
      · split
        · omega
        · split <;> omega
noncomputable def octN (b : Nat) : List Nat := dg b (octJ b + 1)
theorem dg_len (n : Nat) : ∀ j, (dg n j).length = j
  | 0 => rfl
  | j + 1 => by show (dg n j).length + 1 = _; rw [dg_len n j]
noncomputable def cod (i : Nat) : Nat := [14, 15, 16, 17, 18, 19, 20, 21, 22, 24, 31, 32].getD i 0
noncomputable def codV : List V := [.int 14, .int 15, .int 16, .int 17, .int 18, .int 19, .int 20, .int 21, .int 22, .int 24, .int 31, .int 32]
theorem cod_at : ∀ i, i < 12 → codV[i]? = some (.int ((cod i : Nat) : Int))
  | 0, _ => rfl
  | 1, _ => rfl
  | 2, _ => rfl
  | 3, _ => rfl
  | 4, _ => rfl
  | 5, _ => rfl
  | 6, _ => rfl
  | 7, _ => rfl
  | 8, _ => rfl
  | 9, _ => rfl
  | 10, _ => rfl
  | 11, _ => rfl
  | _ + 12, h => absurd h (by omega)
theorem cod_lt : ∀ i, i < 12 → cod i < 64 := by decide
end

section
open PySem
set_option backward.match.sparseCases false
set_option maxRecDepth 100000
set_option maxHeartbeats 400000
set_option linter.unusedVariables false
noncomputable def restN (D : Nat → Nat) (k : Nat) : Nat := D k / (2 * k + 1)
noncomputable def kapN (D : Nat → Nat) (k : Nat) : Nat := restN D k % 3
noncomputable def wayN (D : Nat → Nat) (k : Nat) : Nat := [0, 255 - restN D k / 3 % 255, 256 + restN D k / 3].getD (kapN D k) 0
theorem way_at (r : Nat) : ∀ i, i < 3 → ([V.int 0, V.int (255 - ((r / 3 % 255 : Nat) : Int)), V.int ((256 + r / 3 : Nat) : Int)] : List V)[i]? = some (nV ([0, 255 - r / 3 % 255, 256 + r / 3].getD i 0))
  | 0, _ => rfl
  | 1, _ => congrArg some (congrArg V.int (by show 255 - ((r / 3 % 255 : Nat) : Int) = ((255 - r / 3 % 255 : Nat) : Int); omega))
  | 2, _ => rfl
  | _ + 3, h => absurd h (by omega)
noncomputable def n_ways : Str := ⟨#[119, 97, 121, 115]⟩
noncomputable def n_rest : Str := ⟨#[114, 101, 115, 116]⟩
noncomputable def n_drawnG : Str := ⟨#[100, 114, 97, 119, 110]⟩
noncomputable def n_kG : Str := ⟨#[107]⟩
noncomputable def WayS (D : Nat → Nat) (i : Nat) (L : List Nat) (σ : S) : Prop :=
  L.length = i ∧ i ≤ 5 ∧ ∃ r, σ = ⟨(n_drawnG, .val (.list (drV D))) :: (n_ways, .plc 0) :: r, [some (.lst (L.map nV))]⟩ ∧ (r = [] ∨ ∃ x y, r = [(n_kG, x), (n_rest, y)])
theorem ways_run (n : Nat) (D : Nat → Nat) : (run g2 (n + 30)).call [] n_law_ways [.val (.list (drV D))] = .ok (.list ([wayN D 0, wayN D 1, wayN D 2, wayN D 3, wayN D 4].map nV)) ⟨[], []⟩ := by
  (apply call_e; rfl; rfl; wtm_at "w"; wtm_at "w")
  apply en_cons; wtm_at "x"
  apply en_pass (P := WayS D 5 [wayN D 0, wayN D 1, wayN D 2, wayN D 3, wayN D 4])
  · apply ps_for
    · wtm_at "x"
    · apply pf_eq (xs' := [0, 1, 2, 3, 4].map nV); rfl
      refine pf_foldN 5 nV (fun L k => L ++ [wayN D k]) (fun k => k < 5) (WayS D) ?_ [0, 1, 2, 3, 4] 0 [] _ (Nat.le_refl 5) (by decide) ⟨rfl, by decide, [], rfl, .inl rfl⟩
      rintro i L k σ hi ⟨hL, -, r, rfl, hr⟩ hk
      have hkb : Nat.ble k 1000000 = true := Nat.ble_eq_true_of_le (by omega)
      have hd := drV_at D k hk
      have hdv : (Nat.beq (2 * k + 1) 0 || !Nat.blt (2 * k + 1) 1000000) = false := by
        rw [Nat.blt_eq.mpr (by omega : 2 * k + 1 < 1000000)]; rfl
      have hLm : (L.map nV).length ≤ 10 := by rw [List.length_map]; omega
      have hw := way_at (D k / (2 * k + 1)) (D k / (2 * k + 1) % 3) (Nat.mod_lt _ (by decide))
      have h3 : Nat.ble (D k / (2 * k + 1) % 3) 1000000 = true := Nat.ble_eq_true_of_le (by have := Nat.mod_lt (D k / (2 * k + 1)) (show 3 > 0 by decide); omega)
      have hv : L.map nV ++ [nV (wayN D k)] = (L ++ [wayN D k]).map nV := by rw [List.map_append]; rfl
      rcases hr with rfl | ⟨x, y, rfl⟩
      all_goals
        apply Exists.intro; apply And.intro; wtm_at "w"
        apply ps_blk; apply ps_cons; wtm_at "x"
        apply ps_cons
        · apply st_append; rfl; rfl; rfl; rfl; (apply ex_item; rfl; rfl; wtm_at "x"; wtm_at "x"; (apply gi_n; rfl; exact h3; exact hw)); rfl; wtm_at "g"; wtm_at "w"
        apply ps_nil
        refine ⟨by rw [List.length_append, hL]; rfl, hi, ?_⟩
        exact ⟨_, by rw [← hv]; rfl, .inr ⟨_, _, rfl⟩⟩
  · rintro σ ⟨-, -, r, rfl, hr⟩
    clear hr
    apply en_ret; wtm_at "x"
end

section
open PySem
set_option backward.match.sparseCases false
set_option maxRecDepth 100000
set_option maxHeartbeats 400000
set_option linter.unusedVariables false
noncomputable def n_trip13 : Str := ⟨#[116, 114, 105, 112]⟩
noncomputable def n_shift13 : Str := ⟨#[115, 104, 105, 102, 116]⟩
noncomputable def n_codes13 : Str := ⟨#[99, 111, 100, 101, 115]⟩
noncomputable def n_numbers13 : Str := ⟨#[110, 117, 109, 98, 101, 114, 115]⟩
noncomputable def n_passed13 : Str := ⟨#[112, 97, 115, 115, 101, 100]⟩
noncomputable def n_tape13 : Str := ⟨#[116, 97, 112, 101]⟩
noncomputable def n_number13 : Str := ⟨#[110, 117, 109, 98, 101, 114]⟩
noncomputable def inP (Ps : List Nat) (k : Nat) : Bool := (Ps.map fun (d : Nat) => (d : Int)).any fun z => decide ((k : Int) = z)
noncomputable def numS (s : Nat) (wy : Nat → Nat) (st : List Nat × List Nat) (k : Nat) : List Nat × List Nat := (st.1 ++ [cod (s + k)] ++ cond (inP st.2 k) [wy k] [], st.2 ++ [k])
noncomputable def numsF (s : Nat) (wy : Nat → Nat) (w : List Nat) : List Nat := (w.foldl (numS s wy) ([7], [])).1
noncomputable def tapeF (s : Nat) (wy : Nat → Nat) (w : List Nat) : List Nat := (numsF s wy w ++ [8]).foldl (fun T b => T ++ octN b) []
noncomputable abbrev wyV (wy : Nat → Nat) : List V := [wy 0, wy 1, wy 2, wy 3, wy 4].map nV
theorem wyV_at (wy : Nat → Nat) : ∀ k, k < 5 → (wyV wy)[k]? = some (.int ((wy k : Nat) : Int))
  | 0, _ => rfl
  | 1, _ => rfl
  | 2, _ => rfl
  | 3, _ => rfl
  | 4, _ => rfl
  | _ + 5, h => absurd h (by omega)
noncomputable abbrev tapL (w : List Nat) (wy : Nat → Nat) (s : Nat) (r : List (Str × A)) : List (Str × A) := (n_trip13, .val (.list (w.map nV))) :: (n_ways, .val (.list (wyV wy))) :: (n_shift13, .val (nV s)) :: (n_codes13, .plc 0) :: (n_numbers13, .plc 1) :: (n_passed13, .plc 2) :: r
noncomputable abbrev tapM (st : List Nat × List Nat) : List (Option M) := [some (.lst codV), some (.lst (st.1.map nV)), some (.lst (st.2.map nV))]
noncomputable def TapA (w : List Nat) (wy : Nat → Nat) (s i : Nat) (st : List Nat × List Nat) (σ : S) : Prop :=
  st.2.length = i ∧ st.1.length ≤ 1 + 2 * i ∧ ∃ r, σ = ⟨tapL w wy s r, tapM st⟩ ∧ (i = 0 ∧ r = [] ∨ ∃ x, r = [(n_kG, x)])
noncomputable def TapJ (w : List Nat) (wy : Nat → Nat) (s i : Nat) (st : List Nat × List Nat) (k : Nat) (σ : S) : Prop :=
  st.2.length = i ∧ st.1.length ≤ 1 + 2 * i ∧ σ = ⟨tapL w wy s [(n_kG, .val (nV k))], tapM st⟩
noncomputable def TapT (w : List Nat) (wy : Nat → Nat) (s : Nat) (N Ps : List Nat) (x : A) (i : Nat) (T : List Nat) (σ : S) : Prop :=
  T.length ≤ 5 * i ∧ ∃ r, σ = ⟨(n_trip13, .val (.list (w.map nV))) :: (n_ways, .val (.list (wyV wy))) :: (n_shift13, .val (nV s)) :: (n_codes13, .plc 0) :: (n_numbers13, .val (.list (N.map nV))) :: (n_passed13, .plc 2) :: (n_kG, x) :: (n_tape13, .plc 3) :: r,
    [some (.lst codV), none, some (.lst (Ps.map nV)), some (.lst (T.map nV))]⟩ ∧ (r = [] ∨ ∃ u, r = [(n_number13, u)])
noncomputable def TapU (w : List Nat) (wy : Nat → Nat) (s : Nat) (N Ps : List Nat) (x : A) (i : Nat) (T : List Nat) (b : Nat) (σ : S) : Prop :=
  T.length ≤ 5 * i ∧ σ = ⟨[(n_trip13, .val (.list (w.map nV))), (n_ways, .val (.list (wyV wy))), (n_shift13, .val (nV s)), (n_codes13, .plc 0), (n_numbers13, .val (.list (N.map nV))), (n_passed13, .plc 2), (n_kG, x), (n_tape13, .plc 3), (n_number13, .val (nV b))],
    [some (.lst codV), none, some (.lst (Ps.map nV)), some (.lst (T.map nV))]⟩
theorem nums_len (s : Nat) (wy : Nat → Nat) : ∀ (w : List Nat) (st : List Nat × List Nat), (w.foldl (numS s wy) st).1.length ≤ st.1.length + 2 * w.length
  | [], st => by simp
  | k :: w, st => by
    have := nums_len s wy w (numS s wy st k)
    have h2 : (numS s wy st k).1.length ≤ st.1.length + 2 := by
      unfold numS
      rw [List.length_append, List.length_append]
      cases inP st.2 k
      · show st.1.length + 1 + 0 ≤ _; omega
      · show st.1.length + 1 + 1 ≤ _; omega
    rw [List.foldl_cons, List.length_cons]
    omega
theorem nums_lt {s : Nat} {wy : Nat → Nat} (hs : s < 8) (hw : ∀ k, k < 5 → wy k < 1073741824) : ∀ (w : List Nat) (st : List Nat × List Nat), (∀ k ∈ w, k < 5) → (∀ b ∈ st.1, b < 1073741824) → ∀ b ∈ (w.foldl (numS s wy) st).1, b < 1073741824
  | [], st, _, h => h
  | k :: w, st, hk, h => nums_lt hs hw w (numS s wy st k) (fun j hj => hk j (List.mem_cons_of_mem _ hj)) fun b hb => by
    have hk5 := hk k (List.mem_cons_self ..)
    unfold numS at hb
    rcases List.mem_append.mp hb with hb | hb
    · rcases List.mem_append.mp hb with hb | hb
      · exact h b hb
      · rw [List.mem_singleton.mp hb]
        exact Nat.lt_trans (cod_lt (s + k) (by omega)) (by decide)
    · cases q : inP st.2 k with
      | false => rw [q] at hb; cases hb
      | true =>
        rw [q] at hb
        rw [List.mem_singleton.mp hb]
        exact hw k hk5
theorem in_p {Ps : List Nat} {k : Nat} : cmp .In (.int (k : Int)) (.list (Ps.map nV)) = some (inP Ps k) := by
  show (intsOf (Ps.map nV)).map _ = _
  rw [intsOf_nV]; rfl
theorem tape_run (n : Nat) (w : List Nat) (wy : Nat → Nat) (s : Nat) (hw : Good5 w) (hy : ∀ k, k < 5 → wy k < 1073741824) (hs : s < 8) :
    (run g2 (n + 50)).call [] n_law_tape [.val (.list (w.map nV)), .val (.list (wyV wy)), .val (.int (s : Int))] = .ok (.list ((tapeF s wy w).map nV)) ⟨[], []⟩ := by
  (apply call_e; rfl; rfl; wtm_at "w"; wtm_at "w")
  apply en_cons; wtm_at "x"
  apply en_cons; wtm_at "x"
  apply en_cons; wtm_at "x"
  apply en_pass (P := TapA w wy s 10 (w.foldl (numS s wy) ([7], [])))
  · apply ps_for
    · wtm_at "x"
    · have e10 : TapA w wy s 10 (w.foldl (numS s wy) ([7], [])) = TapA w wy s (w.length + 0) (w.foldl (numS s wy) ([7], [])) := by rw [hw.len]
      rw [e10]
      refine pf_foldN2 10 nV (numS s wy) (fun k => k < 5) (TapA w wy s) (TapJ w wy s) ?_ ?_ w 0 ([7], []) _ (by rw [hw.len]; exact Nat.le_refl _) (fun k hk => hw.lt k hk) ⟨rfl, Nat.le_refl _, [], rfl, .inl ⟨rfl, rfl⟩⟩
      · rintro i ⟨N, Ps⟩ k σ ⟨h1, h2, r, rfl, hr⟩ hk
        rcases hr with ⟨-, rfl⟩ | ⟨x, rfl⟩
        all_goals apply Exists.intro; apply And.intro; wtm_at "w"; exact ⟨h1, h2, rfl⟩
      · rintro i ⟨N, Ps⟩ k σ hi ⟨h1, h2, rfl⟩ hk
        have h1 : Ps.length = i := h1
        have h2 : N.length ≤ 1 + 2 * i := h2
        have hsb : Nat.ble (s + k) 1000000 = true := Nat.ble_eq_true_of_le (by omega)
        have hkb : Nat.ble k 1000000 = true := Nat.ble_eq_true_of_le (by omega)
        have hc := cod_at (s + k) (by omega)
        have hd := wyV_at wy k hk
        have hNm : (N.map nV).length ≤ 100 := by rw [List.length_map]; omega
        have hNm2 : (N.map nV ++ [nV (cod (s + k))]).length ≤ 101 := by rw [List.length_append]; exact Nat.succ_le_succ hNm
        have hPm : (Ps.map nV).length ≤ 100 := by rw [List.length_map]; omega
        have e1 : N.map nV ++ [nV (cod (s + k))] = (N ++ [cod (s + k)]).map nV := by rw [List.map_append]; rfl
        have e3 : Ps.map nV ++ [nV k] = (Ps ++ [k]).map nV := by rw [List.map_append]; rfl
        apply ps_blk; apply ps_cons; wtm_at "x"
        refine ps_pass (Q := fun σ => σ = ⟨tapL w wy s [(n_kG, .val (nV k))], tapM ((numS s wy (N, Ps) k).1, Ps)⟩) ?_ ?_
        · apply ps_if; wtm_at "x"
          · intro h
            apply ps_blk; apply ps_cons; wtm_at "x"; apply ps_nil
            have e2 : N.map nV ++ [nV (cod (s + k))] ++ [nV (wy k)] = (numS s wy (N, Ps) k).1.map nV := by
              unfold numS
              show _ = ((N ++ [cod (s + k)]) ++ cond (inP Ps k) [wy k] []).map nV
              rw [show inP Ps k = true from h, e1, cond_true, List.map_append (l₁ := N ++ [cod (s + k)])]; rfl
            exact congrArg (fun L => (⟨tapL w wy s [(n_kG, .val (nV k))], [some (.lst codV), some (.lst L), some (.lst (Ps.map nV))]⟩ : S)) e2
          · intro h
            apply ps_blk; apply ps_nil
            have e2 : N.map nV ++ [nV (cod (s + k))] = (numS s wy (N, Ps) k).1.map nV := by
              unfold numS
              show _ = ((N ++ [cod (s + k)]) ++ cond (inP Ps k) [wy k] []).map nV
              rw [show inP Ps k = false from h, e1, cond_false, List.append_nil]
            exact congrArg (fun L => (⟨tapL w wy s [(n_kG, .val (nV k))], [some (.lst codV), some (.lst L), some (.lst (Ps.map nV))]⟩ : S)) e2
        · rintro σ rfl
          apply ps_cons; wtm_at "x"; apply ps_nil
          refine ⟨by show (Ps ++ [k]).length = _; rw [List.length_append, h1]; rfl, ?_, [(n_kG, .val (nV k))], ?_, .inr ⟨_, rfl⟩⟩
          · have := nums_len s wy [k] (N, Ps)
            show (numS s wy (N, Ps) k).1.length ≤ _
            have : (numS s wy (N, Ps) k).1.length ≤ N.length + 2 := this
            omega
          · exact congrArg (fun L => (⟨tapL w wy s [(n_kG, .val (nV k))], [some (.lst codV), some (.lst ((numS s wy (N, Ps) k).1.map nV)), some (.lst L)]⟩ : S)) e3
  · rintro σ ⟨h1, h2, r, rfl, hr⟩
    rcases hr with ⟨h, -⟩ | ⟨x, rfl⟩
    · cases h
    · have hN : (numsF s wy w).length ≤ 21 := h2
      have hlt : ∀ b ∈ numsF s wy w ++ [8], b < 1073741824 := fun b hb => by
        rcases List.mem_append.mp hb with hb | hb
        · exact nums_lt hs hy w ([7], []) hw.lt (fun b hb => by rw [List.mem_singleton.mp hb]; decide) b hb
        · rw [List.mem_singleton.mp hb]; decide
      have hNm : ((w.foldl (numS s wy) ([7], [])).1.map nV).length ≤ 100 := by rw [List.length_map]; exact Nat.le_trans hN (by decide)
      apply en_cons; wtm_at "x"
      apply en_pass (P := fun σ => ∃ i, TapT w wy s (numsF s wy w) (w.foldl (numS s wy) ([7], [])).2 x i (tapeF s wy w) σ)
      · apply ps_for
        · apply src_e; rfl; (intro _ _ _ _ h; cases h)
          · apply ex_bin; wtm_at "x"; wtm_at "x"; (apply bo_addl; wtm_at "g")
          · rfl
        · apply pf_eq (xs' := (numsF s wy w ++ [8]).map nV)
          · rw [List.map_append]; rfl
          · refine ps_mono (pf_foldN2 22 nV (fun T b => T ++ octN b) (fun b => b < 1073741824) (TapT w wy s (numsF s wy w) (w.foldl (numS s wy) ([7], [])).2 x) (TapU w wy s (numsF s wy w) (w.foldl (numS s wy) ([7], [])).2 x) ?_ ?_ (numsF s wy w ++ [8]) 0 [] _ (by rw [List.length_append]; show _ + 1 ≤ _; omega) hlt ⟨Nat.le_refl _, [], rfl, .inl rfl⟩) fun _ h => ⟨_, h⟩
            · rintro i T b σ ⟨hT, r, rfl, hr⟩ -
              rcases hr with rfl | ⟨u, rfl⟩
              all_goals apply Exists.intro; apply And.intro; wtm_at "w"; exact ⟨hT, rfl⟩
            · rintro i T b σ hi ⟨hT, rfl⟩ hb
              obtain ⟨j1, j2, j3⟩ := octJ_spec hb
              have hol : (octN b).length ≤ 5 := by unfold octN; rw [dg_len]; omega
              have hTm : (T.map nV).length ≤ 200 := by rw [List.length_map]; omega
              have hOm : ((dg b (octJ b + 1)).map nV).length ≤ 5 := by rw [List.length_map]; exact hol
              have hv : T.map nV ++ (dg b (octJ b + 1)).map nV = (T ++ octN b).map nV := by rw [List.map_append]; rfl
              apply ps_blk; apply ps_cons
              · apply st_extend; rfl; rfl; rfl; rfl; (apply ex_fn; rfl; rfl; wtm_at "x"; rfl; exact octets_run _ b (octJ b) (by omega) j1 j2); rfl; wtm_at "g"; wtm_at "w"
              apply ps_nil
              refine ⟨by rw [List.length_append]; omega, ?_⟩
              rw [← hv]; exact ⟨_, rfl, .inr ⟨_, rfl⟩⟩
      · rintro σ ⟨i, hT, r, rfl, hr⟩
        clear hr
        apply en_ret; wtm_at "x"
end

section
open PySem
set_option backward.match.sparseCases false
set_option maxRecDepth 100000
set_option maxHeartbeats 400000
set_option linter.unusedVariables false
noncomputable def enc (bs : List Nat) : List Nat := (bs.map octN).flatten
theorem enc_foldl : ∀ (bs acc : List Nat), bs.foldl (fun T b => T ++ octN b) acc = acc ++ enc bs
  | [], acc => by simp [enc]
  | b :: bs, acc => by
    rw [List.foldl_cons, enc_foldl bs, List.append_assoc]; rfl
theorem enc_cons (b : Nat) (bs : List Nat) : (enc (b :: bs)).map nV = (dg b (octJ b + 1)).map nV ++ (enc bs).map nV := by
  show (octN b ++ enc bs).map nV = _
  rw [List.map_append]; rfl
noncomputable def sgKS : List V := [.int 7, .int 14, .int 15, .int 16, .int 17, .int 18, .int 19, .int 20, .int 21, .int 22, .int 24, .int 31, .int 32, .int 8]
noncomputable def sgCS : List Nat := [40, 43, 45, 42, 47, 124, 38, 60, 62, 61, 37, 126, 94, 41]
noncomputable def sgVS : List V := sgCS.map fun c => .str ⟨#[c]⟩
noncomputable def sg12 (i : Nat) : Nat := [43, 45, 42, 47, 124, 38, 60, 62, 61, 37, 126, 94].getD i 0
noncomputable def sgnOf (b : Nat) : Nat := (([7, 14, 15, 16, 17, 18, 19, 20, 21, 22, 24, 31, 32, 8].zip sgCS).lookup b).getD 0
noncomputable def SgOk (b : Nat) : Prop := getIx (.dict false sgKS sgVS) (nV b) = some (.str ⟨#[sgnOf b]⟩) ∧ b < 64
theorem sgOk_cod : ∀ i, i < 12 → SgOk (cod i) ∧ sgnOf (cod i) = sg12 i
  | 0, _ => ⟨⟨rfl, by decide⟩, rfl⟩
  | 1, _ => ⟨⟨rfl, by decide⟩, rfl⟩
  | 2, _ => ⟨⟨rfl, by decide⟩, rfl⟩
  | 3, _ => ⟨⟨rfl, by decide⟩, rfl⟩
  | 4, _ => ⟨⟨rfl, by decide⟩, rfl⟩
  | 5, _ => ⟨⟨rfl, by decide⟩, rfl⟩
  | 6, _ => ⟨⟨rfl, by decide⟩, rfl⟩
  | 7, _ => ⟨⟨rfl, by decide⟩, rfl⟩
  | 8, _ => ⟨⟨rfl, by decide⟩, rfl⟩
  | 9, _ => ⟨⟨rfl, by decide⟩, rfl⟩
  | 10, _ => ⟨⟨rfl, by decide⟩, rfl⟩
  | 11, _ => ⟨⟨rfl, by decide⟩, rfl⟩
  | _ + 12, h => absurd h (by omega)
theorem parse_enc (n b : Nat) (hb : b < 1073741824) (bs : List Nat) (ks vs : List V) : (run g2 (n + 20)).call [some (.itr ((enc (b :: bs)).map nV)), some (.dct ks vs)] n_parse_varint [.plc 0] = .ok (nV b) ⟨[], [some (.itr ((enc bs).map nV)), some (.dct ks vs)]⟩ := by
  obtain ⟨j1, j2, j3⟩ := octJ_spec hb
  rw [enc_cons]
  exact parse_run n b (octJ b) (by omega) (by omega) j2 _ _ _
theorem isterm_run (n : Nat) (x : Int) : (run g2 (n + 10)).call [] n_ISTERMINAL [.val (.int x)] = .ok (.bool (decide (x < 256))) ⟨[], []⟩ := by
  apply ok_eq
  (apply call_r; rfl; rfl; wtm_at "w"; wtm_at "w")
  apply sts_ret; wtm_at "x"
  rfl
theorem iseof_run (n : Nat) (x : Int) : (run g2 (n + 10)).call [] n_ISEOF [.val (.int x)] = .ok (.bool (decide (x = 0))) ⟨[], []⟩ := by
  apply ok_eq
  (apply call_r; rfl; rfl; wtm_at "w"; wtm_at "w")
  apply sts_ret; wtm_at "x"
  rfl
noncomputable def n_tape14 : Str := ⟨#[116, 97, 112, 101]⟩
noncomputable def n_signs14 : Str := ⟨#[115, 105, 103, 110, 115]⟩
noncomputable def n_iter14 : Str := ⟨#[105, 116, 101, 114, 97, 116, 111, 114]⟩
noncomputable def n_text14 : Str := ⟨#[116, 101, 120, 116]⟩
noncomputable def n_kinds14 : Str := ⟨#[107, 105, 110, 100, 115]⟩
noncomputable def n_sign14 : Str := ⟨#[115, 105, 103, 110]⟩
noncomputable def n_way14 : Str := ⟨#[119, 97, 121]⟩
noncomputable abbrev Itm := Nat × Option Nat
noncomputable def flatI (b : Itm) : List Nat := b.1 :: b.2.toList
noncomputable def kindV (y : Nat) : V := cond (decide (((y : Nat) : Int) = 0)) (V.int 0) (cond (decide (((y : Nat) : Int) < 256)) (V.int 1) (V.int 2))
noncomputable abbrev Acc := List Nat × (List V × List V)
noncomputable def readI (a : Acc) (b : Itm) : Acc := (a.1 ++ [sgnOf b.1], match b.2 with
  | some y => putV a.2.1 a.2.2 (.str ⟨#[sgnOf b.1]⟩) (kindV y)
  | none => a.2)
noncomputable def Fit : List Nat → List Itm → Prop
  | _, [] => True
  | l, b :: bs => (decide (sgnOf b.1 ∈ l) = b.2.isSome) ∧ (SgOk b.1 ∧ ∀ y, b.2 = some y → y < 1073741824) ∧ Fit (l ++ [sgnOf b.1]) bs
noncomputable abbrev reaL (X : V) (l : List Nat) (r : List (Str × A)) : List (Str × A) := (n_tape14, .val X) :: (n_signs14, .val (.dict false sgKS sgVS)) :: (n_iter14, .plc 0) :: (n_text14, .val (.str (mk l))) :: (n_kinds14, .plc 1) :: r
noncomputable def ReaS (X : V) (a : Acc) (bs : List Itm) (σ : S) : Prop :=
  a.1.length + bs.length ≤ 20 ∧ a.2.1.length ≤ a.1.length ∧ Fit a.1 bs ∧ ∃ r, σ = ⟨reaL X a.1 r, [some (.itr ((enc (bs.flatMap flatI)).map nV)), some (.dct a.2.1 a.2.2)]⟩ ∧ (r = [] ∨ (∃ x, r = [(n_sign14, x)]) ∨ ∃ x y, r = [(n_sign14, x), (n_way14, y)])
noncomputable def ReaE (X : V) (a : Acc) (σ : S) : Prop :=
  ∃ r, σ = ⟨reaL X a.1 r, [none, some (.dct a.2.1 a.2.2)]⟩ ∧ (r = [] ∨ (∃ x, r = [(n_sign14, x)]) ∨ ∃ x y, r = [(n_sign14, x), (n_way14, y)])
theorem putV_len : ∀ {ks vs : List V} {x y : V}, (putV ks vs x y).1.length ≤ ks.length + 1
  | [], vs, x, y => by unfold putV; simp
  | k :: ks, [], x, y => by unfold putV; simp
  | k :: ks, v :: vs, x, y => by
    unfold putV
    cases keyEq x k
    · show (putV ks vs x y).1.length + 1 ≤ ks.length + 1 + 1
      exact Nat.succ_le_succ putV_len
    · show ks.length + 1 ≤ ks.length + 1 + 1
      exact Nat.le_succ _
theorem in_str {l : List Nat} {c : Nat} : cmp .In (.str ⟨#[c]⟩) (.str (mk l)) = some (decide (c ∈ l)) := by
  show some _ = _
  rw [in_tx]
theorem read_run (n : Nat) (its : List Itm) (hf : Fit [] its) (hl : its.length ≤ 20) :
    (run g2 (n + 50)).call [] n_law_read [.val (.list ((enc (its.flatMap flatI)).map nV))] =
      .ok (.tup [.str (mk (its.foldl readI ([], ([], []))).1), .dict true (its.foldl readI ([], ([], []))).2.1 (its.foldl readI ([], ([], []))).2.2]) ⟨[], []⟩ := by
  (apply call_e; rfl; rfl; wtm_at "w"; wtm_at "w")
  apply en_cons
  · apply st_setD (v := .dict false sgKS sgVS) (σ₁ := ⟨[(n_tape14, .val (.list ((enc (its.flatMap flatI)).map nV)))], []⟩)
    · kernel_rfl
    · wtm_at "w"
  apply en_cons; wtm_at "x"
  apply en_cons; wtm_at "x"
  apply en_cons
  · apply st_setF; rfl; exact F_dict; wtm_at "w"; wtm_at "w"; wtm_at "w"
  apply en_try; rfl; rfl
  apply ex_whileB
  refine pw_excQ (ReaS (.list ((enc (its.flatMap flatI)).map nV))) readI (ReaE (.list ((enc (its.flatMap flatI)).map nV))) ?_ ?_ ?_ its ([], ([], [])) ?_ ?_ ?_
  · rintro a bs σ ⟨h1, h2, h3, r, rfl, hr⟩
    apply tr_bool
  · rintro ⟨l, ks, vs⟩ ⟨c, o⟩ bs σ ⟨h1, h2, ⟨h3, ⟨⟨g1, g2'⟩, h4⟩, h5⟩, r, rfl, hr⟩
    have h1 : l.length + (bs.length + 1) ≤ 20 := h1
    have h2 : ks.length ≤ l.length := h2
    have hml : (mk l).length ≤ 20 := by rw [len_mk]; omega
    have hv : mk l ++ ⟨#[sgnOf c]⟩ = mk (l ++ [sgnOf c]) := mk_app l [sgnOf c]
    have hkz : Nat.ble ks.length 1000 = true := Nat.ble_eq_true_of_le (by omega)
    obtain ⟨r', hput, hr'⟩ : ∃ r', (∀ a : A, putN (reaL (.list ((enc (its.flatMap flatI)).map nV)) l r) n_sign14 a = reaL (.list ((enc (its.flatMap flatI)).map nV)) l ((n_sign14, a) :: r')) ∧ (r' = [] ∨ ∃ y, r' = [(n_way14, y)]) := by
      rcases hr with rfl | ⟨x, rfl⟩ | ⟨x, y, rfl⟩
      · exact ⟨[], fun a => rfl, .inl rfl⟩
      · exact ⟨[], fun a => rfl, .inl rfl⟩
      · exact ⟨[(n_way14, y)], fun a => rfl, .inr ⟨_, rfl⟩⟩
    clear hr
    have hput2 : ∀ a b : A, putN (reaL (.list ((enc (its.flatMap flatI)).map nV)) l ((n_sign14, a) :: r')) n_way14 b = reaL (.list ((enc (its.flatMap flatI)).map nV)) l [(n_sign14, a), (n_way14, b)] := fun a b => by
      rcases hr' with rfl | ⟨y, rfl⟩ <;> rfl
    have hend : ∀ a : A, ((n_sign14, a) :: r' = [] ∨ (∃ x, (n_sign14, a) :: r' = [(n_sign14, x)]) ∨ ∃ x y, (n_sign14, a) :: r' = [(n_sign14, x), (n_way14, y)]) := fun a => by
      rcases hr' with rfl | ⟨y, rfl⟩
      · exact .inr (.inl ⟨_, rfl⟩)
      · exact .inr (.inr ⟨_, _, rfl⟩)
    apply ps_blk; apply ps_cons
    · apply st_set; rfl
      · apply ex_item; rfl; rfl; wtm_at "x"
        · apply ex_fnp; rfl; rfl; wtm_at "x"; rfl; exact parse_enc _ _ (by omega) (o.toList ++ bs.flatMap flatI) _ _
        · exact g1
      · apply wr_loc; rfl; exact hput _
    cases o with
    | none =>
      refine ps_pass (Q := fun σ => σ = ⟨reaL (.list ((enc (its.flatMap flatI)).map nV)) l ((n_sign14, .val (.str ⟨#[sgnOf c]⟩)) :: r'), [some (.itr ((enc (bs.flatMap flatI)).map nV)), some (.dct ks vs)]⟩) ?_ ?_
      · apply ps_if; wtm_at "x"
        · intro h
          have h : decide (sgnOf c ∈ l) = true := h
          rw [show decide (sgnOf c ∈ l) = false from h3] at h; cases h
        · intro _
          apply ps_blk; apply ps_nil; rfl
      · rintro σ rfl
        apply ps_cons
        · apply st_aug; rfl; rfl; rfl; wtm_at "x"; rfl; (apply bo_adds; wtm_at "g"); wtm_at "w"
        apply ps_nil
        rw [hv]
        refine ⟨?_, ?_, h5, _, rfl, hend _⟩
        · show (l ++ [sgnOf c]).length + bs.length ≤ 20
          rw [List.length_append]; show l.length + 1 + bs.length ≤ 20; omega
        · show ks.length ≤ (l ++ [sgnOf c]).length
          rw [List.length_append]; exact Nat.le_succ_of_le h2
    | some y =>
      have hy := h4 y rfl
      refine ps_pass (Q := fun σ => σ = ⟨reaL (.list ((enc (its.flatMap flatI)).map nV)) l [(n_sign14, .val (.str ⟨#[sgnOf c]⟩)), (n_way14, .val (nV y))], [some (.itr ((enc (bs.flatMap flatI)).map nV)), some (.dct (putV ks vs (.str ⟨#[sgnOf c]⟩) (kindV y)).1 (putV ks vs (.str ⟨#[sgnOf c]⟩) (kindV y)).2)]⟩) ?_ ?_
      · apply ps_if; wtm_at "x"
        · intro _
          apply ps_blk; apply ps_cons
          · apply st_set; rfl
            · apply ex_fnp; rfl; rfl; wtm_at "x"; rfl; exact parse_enc _ _ hy (bs.flatMap flatI) _ _
            · apply wr_loc; rfl; exact hput2 _ _
          apply ps_cons
          · apply st_put (v := cond (decide (((y : Nat) : Int) = 0)) (V.int (Int.ofNat 0)) (cond (decide (((y : Nat) : Int) < 256)) (V.int (Int.ofNat 1)) (V.int (Int.ofNat 2))))
            · apply ex_if; wtm_at "x"; (intro _; wtm_at "x"); (intro _; apply ex_if; wtm_at "x"; (intro _; wtm_at "x"); (intro _; wtm_at "x"))
            · rfl
            · wtm_at "x"
            · rfl
            · exact hkz
            · rfl
          apply ps_nil; rfl
        · intro h
          have h : decide (sgnOf c ∈ l) = false := h
          rw [show decide (sgnOf c ∈ l) = true from h3] at h; cases h
      · rintro σ rfl
        apply ps_cons
        · apply st_aug; rfl; rfl; rfl; wtm_at "x"; rfl; (apply bo_adds; wtm_at "g"); wtm_at "w"
        apply ps_nil
        rw [hv]
        refine ⟨?_, ?_, h5, _, rfl, .inr (.inr ⟨_, _, rfl⟩)⟩
        · show (l ++ [sgnOf c]).length + bs.length ≤ 20
          rw [List.length_append]; show l.length + 1 + bs.length ≤ 20; omega
        · show (putV ks vs (.str ⟨#[sgnOf c]⟩) (kindV y)).1.length ≤ (l ++ [sgnOf c]).length
          rw [List.length_append]; exact Nat.le_trans putV_len (Nat.succ_le_succ h2)
  · rintro a σ ⟨h1, h2, -, r, rfl, hr⟩
    apply Exists.intro; apply And.intro
    · apply blk; apply sts_exc; apply st_setX; rfl
      apply ex_itemX; rfl; rfl; wtm_at "x"
      apply ex_fnpX; rfl; rfl; wtm_at "x"; rfl; exact parse_exc _ _ _
    · exact ⟨r, rfl, hr⟩
  · omega
  · exact ⟨by rw [List.length_nil, Nat.zero_add]; exact hl, Nat.le_refl _, hf, [], rfl, .inl rfl⟩
  · rintro σ' ⟨r, rfl, hr⟩
    clear hr
    exact ⟨_, _, rfl, rfl⟩
end

section
open PySem
set_option backward.match.sparseCases false
set_option maxRecDepth 100000
set_option maxHeartbeats 4000000
set_option linter.unusedVariables false
structure KOk (c κ : Nat → Nat) (w : List Nat) (ks vs : List V) : Prop where
  inn : ∀ k, k < 5 → lkV ks vs (.str ⟨#[c k]⟩) = some (nV (κ k))
  lt : ∀ k, k < 5 → κ k < 3
  wnt : ∀ i, i < 5 → ∀ j, j < 5 → i ≠ j → Wnt (c i) (c j)
  fst : ((twL c w).zipIdx.filter fun b => (lkV ks vs (.str ⟨#[b.1]⟩)).isSome && !decide (b.1 ∈ (twL c w).take b.2)).map (·.1) = [c 4, c 3, c 2, c 1, c 0]
theorem enum_tx (l : List Nat) : ((signsOf (mk l)).zipIdx).map (fun p => V.tup [.int (Int.ofNat p.2), p.1]) = l.zipIdx.map fun b => V.tup [.int (Int.ofNat b.2), .str ⟨#[b.1]⟩] := by
  have : signsOf (mk l) = l.map fun c => V.str ⟨#[c]⟩ := rfl
  rw [this, List.zipIdx_map, List.map_map]
  rfl
noncomputable def n_place : Str := ⟨#[112, 108, 97, 99, 101]⟩
noncomputable def n_sign : Str := ⟨#[115, 105, 103, 110]⟩
noncomputable def n_i : Str := ⟨#[105]⟩
noncomputable def n_j : Str := ⟨#[106]⟩
noncomputable def n_first : Str := ⟨#[102, 105, 114, 115, 116]⟩
noncomputable def n_other : Str := ⟨#[111, 116, 104, 101, 114]⟩
noncomputable def updX (b : Bool) (i j : Nat) (M : List Nat) : List Nat := cond b ((M.set i (M.getD i 0 + 2 ^ j)).set j ((M.set i (M.getD i 0 + 2 ^ j)).getD j 0 + 2 ^ i)) M
noncomputable abbrev letV (c : Nat → Nat) : List V := [.str ⟨#[c 4]⟩, .str ⟨#[c 3]⟩, .str ⟨#[c 2]⟩, .str ⟨#[c 1]⟩, .str ⟨#[c 0]⟩]
theorem letV_at (c : Nat → Nat) : ∀ k, k < 5 → (letV c)[k]? = some (.str ⟨#[c (4 - k)]⟩)
  | 0, _ => rfl
  | 1, _ => rfl
  | 2, _ => rfl
  | 3, _ => rfl
  | 4, _ => rfl
  | _ + 5, h => absurd h (by omega)
noncomputable abbrev rowM (T : Str) (ks vs : List V) (c : Nat → Nat) (N : List Nat) : List (Option M) := [some (.cell (some (.val (.str T)))), some (.cell (some (.val (.dict true ks vs)))), some (.cell (some (.val (.list (letV c))))), some (.cell (some (.plc 4))), some (.lst (N.map nV))]
noncomputable def RowS (T : Str) (ks vs : List V) (c : Nat → Nat) (M : List Nat) (σ : S) : Prop :=
  M.length = 5 ∧ ∃ r, σ = ⟨r, rowM T ks vs c M⟩ ∧ (r = [] ∨ (∃ x, r = [(n_i, x)]) ∨ ∃ x y z u, r = [(n_i, x), (n_j, y), (n_other, z), (n_first, u)])
noncomputable def RowI (T : Str) (ks vs : List V) (c : Nat → Nat) (i : Nat) (M : List Nat) (σ : S) : Prop :=
  M.length = 5 ∧ ∃ r, σ = ⟨(n_i, .val (nV i)) :: r, rowM T ks vs c M⟩ ∧ (r = [] ∨ ∃ y z u, r = [(n_j, y), (n_other, z), (n_first, u)])
noncomputable def RowJ (T : Str) (ks vs : List V) (c : Nat → Nat) (i : Nat) (M : List Nat) (j : Nat) (σ : S) : Prop :=
  M.length = 5 ∧ ∃ r, σ = ⟨(n_i, .val (nV i)) :: (n_j, .val (nV j)) :: r, rowM T ks vs c M⟩ ∧ (r = [] ∨ ∃ z u, r = [(n_other, z), (n_first, u)])
noncomputable def rowsX (T : Str) (c : Nat → Nat) : List Nat := [0, 1, 2, 3, 4].foldl (fun M i => (List.range i).foldl (fun M j => updX (m4 T (c (4 - j)) (c (4 - i))) i j M) M) [0, 0, 0, 0, 0]
noncomputable def rowN (κ : Nat → Nat) (M : List Nat) (i : Nat) : Nat := [2 ^ i, M.getD i 0, M.getD i 0 + 2 ^ i].getD (κ (4 - i)) 0
theorem rowN_at (a b d : Nat) : ∀ k, k < 3 → ([nV a, nV b, nV d] : List V)[k]? = some (nV ([a, b, d].getD k 0))
  | 0, _ => rfl
  | 1, _ => rfl
  | 2, _ => rfl
  | _ + 3, h => absurd h (by omega)
theorem rows_run (n : Nat) (c κ : Nat → Nat) (w : List Nat) (ks vs : List V) (hw : Good5 w) (hK : KOk c κ w ks vs) :
    (run g2 (n + 70)).call [] n_law_rows [.val (.str (TW c w)), .val (.dict true ks vs)] = .ok (.list ([0, 1, 2, 3, 4].map fun i => nV (rowN κ (rowsX (TW c w) c) i))) ⟨[], []⟩ := by
  have hT := tw_ok (c := c) hw
  have hTl : (TW c w).length ≤ 1000 := hT.len
  (apply call_e; rfl; rfl; wtm_at "w"; wtm_at "w")
  apply en_cons
  · apply st_setC
    · apply comp_ei (m₂ := [some (.cell (some (.val (.str (TW c w))))), some (.cell (some (.val (.dict true ks vs)))), some (.cell none), some (.cell none)]) (ys := letV c)
      · rfl
      · rfl
      · apply src_enum; rfl; rfl; rfl; wtm_at "x"; rfl; exact enum_tx (twL c w)
      · wtm_at "w"
      · wtm_at "w"
      · refine turns_filterM (β := Nat × Nat) (fun b => V.tup [.int (Int.ofNat b.2), .str ⟨#[b.1]⟩]) (fun b => V.str ⟨#[b.1]⟩) (fun b => (lkV ks vs (.str ⟨#[b.1]⟩)).isSome && !decide (b.1 ∈ (twL c w).take b.2)) (fun b => b.2 ≤ 12)
          (fun σ => σ = ⟨[], [some (.cell (some (.val (.str (TW c w))))), some (.cell (some (.val (.dict true ks vs)))), some (.cell none), some (.cell none)]⟩ ∨ ∃ a b, σ = ⟨[(n_place, a), (n_sign, b)], [some (.cell (some (.val (.str (TW c w))))), some (.cell (some (.val (.dict true ks vs)))), some (.cell none), some (.cell none)]⟩) ?_ ?_ _ ?_ (.inl rfl) ?_
        · rintro σ (rfl | ⟨a, b, rfl⟩) <;> rfl
        · rintro ⟨x, k⟩ σ hσ hk
          have hk : k ≤ 12 := hk
          have hkl : k ≤ (twL c w).length := by rw [twL_len hw]; exact hk
          have hsl : Txt.slice (TW c w) none (some (Int.ofNat k)) = mk ((twL c w).take k) := slice_b hkl
          rcases hσ with rfl | ⟨a, b, rfl⟩
          all_goals
            apply Exists.intro; apply And.intro; wtm_at "w"
            apply Exists.intro; apply And.intro
            · apply tests_one; apply tr_and2
              · apply tr_cmp; apply cmp_v; rfl; wtm_at "x"; rfl; wtm_at "x"; rfl
              · intro _
                apply tr_cmp; apply cmp_v; rfl; wtm_at "x"; rfl
                · apply ex_slices; wtm_at "x"; apply part_none; (apply part_some; wtm_at "x"; rfl); wtm_at "g"
                · rw [hsl]; show some _ = _; rw [in_tx]
            · exact ⟨.inr ⟨_, _, rfl⟩, fun _ => by wtm_at "x"⟩
        · intro b hb
          obtain ⟨i, hi⟩ := List.getElem?_of_mem hb
          rw [List.getElem?_zipIdx] at hi
          obtain ⟨x, hx, rfl⟩ := Option.map_eq_some_iff.mp hi
          have := (List.getElem?_eq_some_iff.mp hx).1
          rw [twL_len hw] at this
          show 0 + i ≤ 12
          omega
        · have := congrArg (List.map fun x => V.str ⟨#[x]⟩) hK.fst
          rw [List.map_map] at this
          exact this
      · rfl
      · wtm_at "w"
      · rfl
    · wtm_at "w"
  apply en_cons; wtm_at "x"
  apply en_pass (P := RowS (TW c w) ks vs c (rowsX (TW c w) c))
  · apply ps_for
    · wtm_at "x"
    · apply pf_eq (xs' := [0, 1, 2, 3, 4].map nV); rfl
      refine pf_fold2 _ (fun M i => (List.range i).foldl (fun M j => updX (m4 (TW c w) (c (4 - j)) (c (4 - i))) i j M) M) (fun i => i < 5) (RowS (TW c w) ks vs c) (fun M i => RowI (TW c w) ks vs c i M) ?_ ?_ _ [0, 0, 0, 0, 0] _ (by decide) ⟨rfl, [], rfl, .inl rfl⟩
      · rintro M i σ ⟨hM, r, rfl, hr⟩ -
        rcases hr with rfl | ⟨x, rfl⟩ | ⟨x, y, z, u, rfl⟩
        · apply Exists.intro; apply And.intro; wtm_at "w"; exact ⟨hM, _, rfl, .inl rfl⟩
        · apply Exists.intro; apply And.intro; wtm_at "w"; exact ⟨hM, _, rfl, .inl rfl⟩
        · apply Exists.intro; apply And.intro; wtm_at "w"; exact ⟨hM, _, rfl, .inr ⟨_, _, _, rfl⟩⟩
      · rintro M i σ ⟨hM, r, rfl, hr⟩ hi
        have hib : Nat.ble i 1000000 = true := Nat.ble_eq_true_of_le (by omega)
        have hli := letV_at c i hi
        apply ps_blk
        refine ps_pass (Q := RowI (TW c w) ks vs c i ((List.range i).foldl (fun M j => updX (m4 (TW c w) (c (4 - j)) (c (4 - i))) i j M) M)) ?_ ?_
        · apply ps_for
          · apply src_c; rfl; (intro h; cases h)
            · apply ex_bf; rfl; rfl; rfl; (wtm_at "x"); (apply bf_range; rfl; omega)
            · apply rngn; omega
          · refine pf_fold2 nV _ (fun j => j < i) (RowI (TW c w) ks vs c i) (RowJ (TW c w) ks vs c i) ?_ ?_ _ M _ (fun j hj => List.mem_range.mp hj) ⟨hM, r, rfl, hr⟩
            · rintro M j σ ⟨hM, r, rfl, hr⟩ -
              rcases hr with rfl | ⟨y, z, u, rfl⟩
              · apply Exists.intro; apply And.intro; wtm_at "w"; exact ⟨hM, _, rfl, .inl rfl⟩
              · apply Exists.intro; apply And.intro; wtm_at "w"; exact ⟨hM, _, rfl, .inr ⟨_, _, rfl⟩⟩
            · rintro M j σ ⟨hM, r, rfl, hr⟩ hj
              have hjb : Nat.ble j 1000000 = true := Nat.ble_eq_true_of_le (by omega)
              have hlj := letV_at c j (by omega)
              have hwn := hK.wnt (4 - j) (by omega) (4 - i) (by omega) (by omega)
              have hsi : i ≤ 1000 := by omega
              have hsj : j ≤ 1000 := by omega
              have hMi : i < M.length := by omega
              have hM1 : M.length ≤ 1000 := by omega
              have hai := at_w hMi
              have hl1 : (M.set i (M.getD i 0 + 2 ^ j)).length = 5 := by rw [List.length_set, hM]
              have hMj : j < (M.set i (M.getD i 0 + 2 ^ j)).length := by omega
              have hM2 : (M.set i (M.getD i 0 + 2 ^ j)).length ≤ 1000 := by omega
              have haj := at_w hMj
              apply ps_blk
              refine ps_cons (σ₁ := ⟨[(n_i, .val (nV i)), (n_j, .val (nV j)), (n_other, .val (.str ⟨#[c (4 - i)]⟩)), (n_first, .val (.str ⟨#[c (4 - j)]⟩))], rowM (TW c w) ks vs c M⟩) ?_ ?_
              · rcases hr with rfl | ⟨z, u, rfl⟩
                all_goals (apply st_swap2; rfl; rfl; wtm_at "x"; (apply sa_cons; wtm_at "w"; apply sa_cons; wtm_at "w"; exact sa_nil))
              clear hr
              refine ps_pass (Q := RowI (TW c w) ks vs c i (updX (m4 (TW c w) (c (4 - j)) (c (4 - i))) i j M)) ?_ (fun _ h => ps_nil h)
              apply ps_if
              · apply tr_call
                · apply ex_fn; rfl; rfl
                  · apply as_cons; rfl
                    · apply ex_bin
                      · apply ex_bin; (wtm_at "x")
                        · apply ex_meth; rfl; rfl; (wtm_at "x"); (wtm_at "x"); (apply me_join; rfl; exact hwn.join)
                        · apply bo_adds; apply gb2; exact (Nat.le_refl 4 : Str.length ⟨#[40, 46, 46, 46]⟩ ≤ 4); exact hwn.jlen; rfl
                      · wtm_at "x"
                      · apply bo_adds; apply gb2; (apply gl_app; exact (Nat.le_refl 4 : Str.length ⟨#[40, 46, 46, 46]⟩ ≤ 4); exact hwn.jlen); exact (Nat.le_refl 4 : Str.length ⟨#[46, 46, 46, 41]⟩ ≤ 4); rfl
                    · wtm_at "x"
                  · rfl
                  · exact ellipsis_run _ _ _ _ hwn hT.len hT.st hT.en hT.two
                · rfl
              · intro h
                have hu : updX (m4 (TW c w) (c (4 - j)) (c (4 - i))) i j M = (M.set i (M.getD i 0 + 2 ^ j)).set j ((M.set i (M.getD i 0 + 2 ^ j)).getD j 0 + 2 ^ i) := by
                  have h' : m4 (TW c w) (c (4 - j)) (c (4 - i)) = true := h
                  unfold updX; rw [h']; rfl
                rw [hu]
                apply ps_blk; apply ps_cons; wtm_at "x"; apply ps_cons; wtm_at "x"; apply ps_nil
                exact ⟨by rw [List.length_set]; exact hl1, _, rfl, .inr ⟨_, _, _, rfl⟩⟩
              · intro h
                have hu : updX (m4 (TW c w) (c (4 - j)) (c (4 - i))) i j M = M := by
                  have h' : m4 (TW c w) (c (4 - j)) (c (4 - i)) = false := h
                  unfold updX; rw [h']; rfl
                rw [hu]
                apply ps_blk; apply ps_nil
                exact ⟨hM, _, rfl, .inr ⟨_, _, _, rfl⟩⟩
        · rintro σ ⟨hM, r, rfl, hr⟩
          apply ps_nil
          refine ⟨hM, _, rfl, ?_⟩
          rcases hr with rfl | ⟨y, z, u, rfl⟩
          · exact .inr (.inl ⟨_, rfl⟩)
          · exact .inr (.inr ⟨_, _, _, _, rfl⟩)
  · rintro σ ⟨hM, r, rfl, hr⟩
    clear hr
    generalize rowsX (TW c w) c = M at hM
    apply en_ret; apply st_ret; apply ex_lcomp
    apply comp_e (m₂ := rowM (TW c w) ks vs c M); rfl; rfl; wtm_at "x"; wtm_at "w"; wtm_at "w"
    · refine turns_foldM nV (fun i => nV (rowN κ M i)) (fun i => i < 5) (fun σ => σ = ⟨[], rowM (TW c w) ks vs c M⟩ ∨ ∃ a, σ = ⟨[(n_i, a)], rowM (TW c w) ks vs c M⟩) ?_ ?_ [0, 1, 2, 3, 4] (by decide) (.inl rfl)
      · rintro σ (rfl | ⟨a, rfl⟩) <;> rfl
      · rintro i σ hσ hi
        have hib : Nat.ble i 1000000 = true := Nat.ble_eq_true_of_le (by omega)
        have hsi : i ≤ 1000 := by omega
        have hli := letV_at c i hi
        have hMi : i < M.length := by omega
        have hai := at_w hMi
        have hk4 : 4 - i < 5 := by omega
        have hkk := hK.inn (4 - i) hk4
        have hk3 := hK.lt (4 - i) hk4
        have hkb : Nat.ble (κ (4 - i)) 1000000 = true := Nat.ble_eq_true_of_le (by omega)
        have hrow := rowN_at (2 ^ i) (M.getD i 0) (M.getD i 0 + 2 ^ i) (κ (4 - i)) hk3
        rcases hσ with rfl | ⟨a, rfl⟩
        all_goals
          apply Exists.intro; apply And.intro; wtm_at "w"
          apply Exists.intro; apply And.intro
          · apply ex_item; rfl; rfl; wtm_at "x"
            · apply ex_item; rfl; rfl; wtm_at "x"; wtm_at "x"; exact hkk
            · apply gi_n; rfl; exact hkb; exact hrow
          · exact .inr ⟨_, rfl⟩
    · rfl
    · wtm_at "w"
    · rfl
end

section
open PySem
set_option backward.match.sparseCases false
set_option maxRecDepth 100000
set_option maxHeartbeats 4000000
set_option linter.unusedVariables false
noncomputable def n_row : Str := ⟨#[114, 111, 119]⟩
noncomputable def n_x5 : Str := ⟨#[120]⟩
noncomputable def oddS (O : List Int) : List Int := O ++ O.map fun x => 1 - x
noncomputable def oddF : List Int := oddS (oddS (oddS (oddS (oddS [0]))))
theorem oddF_len : oddF.length = 32 := by decide
theorem rng32 : itemsOf (.range 32) = some ((List.range 32).map nV) := rfl
noncomputable def evS (R : List Nat) (m : Nat) : Int := (R.map fun r => oddF.getD (m &&& r) 0).sum
noncomputable def EvS (R : List Nat) (i : Nat) (O : List Int) (σ : S) : Prop :=
  O.length = 2 ^ i ∧ i ≤ 5 ∧ (σ = ⟨[], [some (.cell (some (.val (.list (R.map nV))))), some (.cell (some (.plc 2))), some (.lst (O.map V.int))]⟩ ∧ i = 0 ∨ ∃ x, σ = ⟨[(n_row, x)], [some (.cell (some (.val (.list (R.map nV))))), some (.cell (some (.val (.list (O.map V.int))))), none]⟩)
theorem even_run (n : Nat) (r0 r1 r2 r3 r4 : Nat) :
    (run g2 (n + 60)).call [] n_law_even [.val (.list ([r0, r1, r2, r3, r4].map nV))] = .ok (.list (((List.range 32).filter fun m => decide (evS [r0, r1, r2, r3, r4] m = 0)).map nV)) ⟨[], []⟩ := by
  (apply call_e; rfl; rfl; wtm_at "w"; wtm_at "w")
  apply en_cons; wtm_at "x"
  apply en_pass (P := EvS [r0, r1, r2, r3, r4] 5 oddF)
  · apply ps_for
    · apply src_e; rfl; (intro _ _ _ _ h; cases h); wtm_at "x"; rfl
    · refine pf_foldN 5 nV (fun O _ => oddS O) (fun _ => True) (EvS [r0, r1, r2, r3, r4]) ?_ [r0, r1, r2, r3, r4] 0 [0] _ (Nat.le_refl 5) (fun _ _ => trivial) ⟨rfl, by decide, .inl ⟨rfl, rfl⟩⟩
      rintro i O r σ hi ⟨hO, -, hσ⟩ -
      have hO32 : O.length ≤ 32 := by
        rw [hO]; exact (Nat.pow_le_pow_right (by decide) (Nat.le_of_lt hi) : 2 ^ i ≤ 2 ^ 5)
      have hOm : (O.map V.int).length ≤ 100 := by rw [List.length_map]; omega
      have hOn : (O.map fun x => V.int (1 - x)).length ≤ 100 := by rw [List.length_map]; omega
      have hv : O.map V.int ++ (O.map fun x => V.int (1 - x)) = (oddS O).map V.int := by unfold oddS; rw [List.map_append, List.map_map]; rfl
      have hend : EvS [r0, r1, r2, r3, r4] (i + 1) (oddS O) ⟨[(n_row, .val (nV r))], [some (.cell (some (.val (.list ([r0, r1, r2, r3, r4].map nV))))), some (.cell (some (.val (.list ((oddS O).map V.int))))), none]⟩ := by
        refine ⟨?_, hi, .inr ⟨_, rfl⟩⟩
        unfold oddS
        rw [List.length_append, List.length_map, hO, Nat.pow_succ, Nat.mul_two]
      rcases hσ with ⟨rfl, -⟩ | ⟨x, rfl⟩
      all_goals
        apply Exists.intro; apply And.intro; wtm_at "w"
        apply ps_blk; apply ps_cons
        · apply st_set; rfl
          · apply ex_bin; wtm_at "x"
            · apply ex_lcomp; apply comp_e (m₂ := [some (.cell (some (.val (.list ([r0, r1, r2, r3, r4].map nV))))), some (.cell (some (.val (.list (O.map V.int))))), none]) (ys := O.map fun x => V.int (1 - x)); rfl; rfl; (apply src_e; rfl; (intro _ _ _ _ h; cases h); wtm_at "x"; rfl); wtm_at "w"; wtm_at "w"
              · refine turns_foldM V.int (fun x => V.int (1 - x)) (fun _ => True) (fun σ => σ = ⟨[], [some (.cell (some (.val (.list ([r0, r1, r2, r3, r4].map nV))))), some (.cell (some (.val (.list (O.map V.int))))), none]⟩ ∨ ∃ a, σ = ⟨[(n_x5, a)], [some (.cell (some (.val (.list ([r0, r1, r2, r3, r4].map nV))))), some (.cell (some (.val (.list (O.map V.int))))), none]⟩) ?_ ?_ O (fun _ _ => trivial) (.inl rfl)
                · rintro σ (rfl | ⟨a, rfl⟩) <;> rfl
                · rintro x σ hσ -
                  rcases hσ with rfl | ⟨a, rfl⟩
                  all_goals
                    apply Exists.intro; apply And.intro; wtm_at "w"
                    apply Exists.intro; apply And.intro; (apply ex_bin; wtm_at "x"; wtm_at "x"; rfl)
                    exact .inr ⟨_, rfl⟩
              · wtm_at "g"
              · wtm_at "w"
              · rfl
            · wtm_at "o"
          · wtm_at "w"
        apply ps_nil
        rw [hv]; exact hend
  · rintro σ ⟨hO, -, hσ⟩
    rcases hσ with ⟨-, h⟩ | ⟨x, rfl⟩
    · cases h
    · apply en_ret; apply st_ret; apply ex_lcomp
      apply comp_et (m₃ := [some (.cell (some (.val (.list ([r0, r1, r2, r3, r4].map nV))))), some (.cell (some (.val (.list (oddF.map V.int))))), none])
      · rfl
      · rfl
      · apply src_c; rfl; (intro h; cases h); (apply ex_bf; rfl; rfl; rfl; wtm_at "x"; rfl); exact rng32
      · wtm_at "w"
      · wtm_at "w"
      · refine turns_filterT nV nV (fun m => decide (evS [r0, r1, r2, r3, r4] m = 0)) (fun m => m < 32) (fun σ => ∃ r a, σ = ⟨r, [some (.cell (some (.val (.list ([r0, r1, r2, r3, r4].map nV))))), some (.cell (some (.val (.list (oddF.map V.int))))), none, some (.cell a)]⟩ ∧ (r = [])) ?_ ?_ (List.range 32) (fun m hm => List.mem_range.mp hm) ⟨[], none, rfl, rfl⟩ rfl
        · rintro σ ⟨r, a, rfl, -⟩; rfl
        · rintro m σ ⟨r, a, rfl, rfl⟩ hm
          apply Exists.intro; apply And.intro; wtm_at "w"
          apply Exists.intro; apply And.intro
          · apply tests_one; apply tr_cmp; apply cmp_v; rfl
            · apply ex_bf; rfl; rfl; rfl
              · apply ex_lcomp; apply comp_e (m₂ := [some (.cell (some (.val (.list ([r0, r1, r2, r3, r4].map nV))))), some (.cell (some (.val (.list (oddF.map V.int))))), none, some (.cell (some (.val (nV m))))]) (ys := [r0, r1, r2, r3, r4].map fun r => V.int (oddF.getD (m &&& r) 0)); rfl; rfl; (apply src_e; rfl; (intro _ _ _ _ h; cases h); wtm_at "x"; rfl); wtm_at "w"; wtm_at "w"
                · refine turns_foldM nV (fun r => V.int (oddF.getD (m &&& r) 0)) (fun _ => True) (fun σ => σ = ⟨[], [some (.cell (some (.val (.list ([r0, r1, r2, r3, r4].map nV))))), some (.cell (some (.val (.list (oddF.map V.int))))), none, some (.cell (some (.val (nV m))))]⟩ ∨ ∃ a, σ = ⟨[(n_row, a)], [some (.cell (some (.val (.list ([r0, r1, r2, r3, r4].map nV))))), some (.cell (some (.val (.list (oddF.map V.int))))), none, some (.cell (some (.val (nV m))))]⟩) ?_ ?_ [r0, r1, r2, r3, r4] (fun _ _ => trivial) (.inl rfl)
                  · rintro σ (rfl | ⟨a, rfl⟩) <;> rfl
                  · rintro x σ hσ -
                    have hl : m &&& x < oddF.length := by rw [oddF_len]; exact Nat.lt_of_le_of_lt Nat.and_le_left hm
                    have hb : Nat.ble (m &&& x) 1000000 = true := Nat.ble_eq_true_of_le (Nat.le_trans (Nat.le_of_lt (Nat.lt_of_lt_of_eq hl oddF_len)) (by decide))
                    have hg : (oddF.map V.int)[m &&& x]? = some (V.int (oddF.getD (m &&& x) 0)) := by
                      rw [List.getElem?_map, List.getD_eq_getElem?_getD, List.getElem?_eq_getElem hl]; rfl
                    rcases hσ with rfl | ⟨a, rfl⟩
                    all_goals
                      apply Exists.intro; apply And.intro; wtm_at "w"
                      apply Exists.intro; apply And.intro; (apply ex_item; rfl; rfl; wtm_at "x"; (apply ex_bin; wtm_at "x"; wtm_at "x"; wtm_at "o"); wtm_at "q")
                      exact .inr ⟨_, rfl⟩
                · rfl
                · wtm_at "w"
                · rfl
              · exact bf_sum (l := [r0, r1, r2, r3, r4].map fun r => oddF.getD (m &&& r) 0) rfl
            · rfl
            · wtm_at "x"
            · rfl
          · exact ⟨⟨[], _, rfl, rfl⟩, fun _ => by wtm_at "x"⟩
      · refine Nat.ble_eq_true_of_le ?_
        rw [List.length_map]
        exact Nat.le_trans (List.length_filter_le _ _) (by decide)
      · rfl
end

section
open PySem
set_option backward.match.sparseCases false
set_option maxRecDepth 100000
set_option maxHeartbeats 4000000
set_option linter.unusedVariables false
theorem two_all : ∀ q, q < 10 → ∀ p, p < q → (List.range 10).filter (fun i => Nat.beq i p || Nat.beq i q) = [p, q] := by decide +kernel
theorem two_occ {w : List Nat} {k p q : Nat} (hw : w.length = 10) (h : Occ w k p q) : (List.range 10).filter (fun i => decide (((w.getD i 0 : Nat) : Int) = (k : Int))) = [p, q] := by
  have e : ∀ i ∈ List.range 10, decide (((w.getD i 0 : Nat) : Int) = (k : Int)) = (Nat.beq i p || Nat.beq i q) := fun i hi => by
    have hi := List.mem_range.mp hi
    have hg : w[i]? = some (w.getD i 0) := by
      rw [List.getD_eq_getElem?_getD, List.getElem?_eq_getElem (hw.symm ▸ hi)]; rfl
    cases hb : (Nat.beq i p || Nat.beq i q) with
    | true =>
      have hk : w[i]? = some k := by
        rcases Bool.or_eq_true_iff.mp hb with z | z
        · rw [Nat.eq_of_beq_eq_true z]; exact h.at1
        · rw [Nat.eq_of_beq_eq_true z]; exact h.at2
      rw [hg] at hk
      exact decide_eq_true (by rw [Option.some.inj hk])
    | false =>
      have hb' := Bool.or_eq_false_iff.mp hb
      refine decide_eq_false fun e => ?_
      have e' : w.getD i 0 = k := Int.ofNat.inj e
      rw [e'] at hg
      rcases h.no i hg with z | z
      · exact absurd z (Nat.ne_of_beq_eq_false hb'.1)
      · exact absurd z (Nat.ne_of_beq_eq_false hb'.2)
  rw [List.filter_congr e]
  exact two_all q (hw ▸ h.len) p h.lt
noncomputable def kW (x : Nat) : Nat := if x = 0 then 0 else if x < 256 then 1 else 2
noncomputable def n_ring6 : Str := ⟨#[114, 105, 110, 103]⟩
noncomputable def n_p6 : Str := ⟨#[112]⟩
noncomputable def n_q6 : Str := ⟨#[113]⟩
noncomputable def n_then6 : Str := ⟨#[116, 104, 101, 110]⟩
noncomputable def n_pairs6 : Str := ⟨#[112, 97, 105, 114, 115]⟩
noncomputable def n_one6 : Str := ⟨#[111, 110, 101]⟩
noncomputable def n_other6 : Str := ⟨#[111, 116, 104, 101, 114]⟩
noncomputable def n_place6 : Str := ⟨#[112, 108, 97, 99, 101]⟩
noncomputable def n_x6 : Str := ⟨#[120]⟩
section
variable {g : Gl} {n : Nat} {cx : Cx} {σ : S}
theorem comp_s {e tg it : Expr} {ifs : List Expr} {as : Int} {scope : Scope} {xs ys : List V} {loc : List (Str × A)} {mem : List (Option M)} (ha : Nat.beq as.natAbs 0 = true) (hk : scopeOk scope cx = true) (h1 : src g (run g n) cx σ tg it = .ok xs ⟨loc, mem⟩)
    (h0 : newCells scope = []) (h2 : ∃ σ', turns (run g n) (inner scope cx mem.length) tg ifs e ⟨[], mem⟩ xs = .ok ys σ' ∧ σ'.mem = mem) (hl : Nat.ble ys.length lim = true) (hc : closed mem.length mem = true) :
    exComp g (run g n) cx σ e ⟨tg, it, ifs, as⟩ scope = .ok (.list ys) ⟨loc, mem⟩ :=
  comp_ei ha hk h1 (by rw [h0]; exact List.append_nil _) rfl h2 hl List.take_length hc
variable {σ₁ : S} {P : S → Prop} {x : Str} {v : V} {a : A} {p q : Pos} {e : Expr}
theorem ps_unpack {ts : List Expr} {k} (ht : tupE e = none) (h : (run g n).ex cx σ e = .ok (.val v) σ₁) (ha : ∃ σ₂, assign cx σ₁ (.Tuple ts k p) v = .ok () σ₂ ∧ P σ₂) : Pass (stStep g (run g n) cx σ (.Assign [.Tuple ts k p] e q)) P := by
  obtain ⟨σ₂, h1, h2⟩ := ha
  exact ⟨σ₂, st_unpack ht h h1, h2⟩
theorem ps_set (hc : plainE e = true) (h : (run g n).ex cx σ e = .ok a σ₁) (hw : ∃ σ₂, writeName cx σ₁ x a = some σ₂ ∧ P σ₂) : Pass (stStep g (run g n) cx σ (.Assign [.Name x p] e q)) P := by
  obtain ⟨σ₂, h1, h2⟩ := hw
  exact ⟨σ₂, st_set hc h h1, h2⟩
theorem ps_setF {m : M} {loc : List (Str × A)} {mem m' : List (Option M)} (hc : isF e = true) (h : exF (run g n) cx σ e = .ok m ⟨loc, mem⟩) (hm : mem ++ [some m] = m') {j : Nat} (hj : mem.length = j) (hw : ∃ σ₂, writeName cx ⟨loc, m'⟩ x (.plc j) = some σ₂ ∧ P σ₂) : Pass (stStep g (run g n) cx σ (.Assign [.Name x p] e q)) P := by
  obtain ⟨σ₂, h1, h2⟩ := hw
  exact ⟨σ₂, st_setF hc h hm hj h1, h2⟩
end
noncomputable abbrev rgM (w : List Nat) (k l o : Option V) (T : List (Option M)) : List (Option M) := some (.cell (some (.val (.list (w.map nV))))) :: some (.cell (k.map A.val)) :: some (.cell (l.map A.val)) :: some (.cell (o.map A.val)) :: T
noncomputable abbrev rgL (W : Nat → Nat) (R : List Nat) (r : List (Str × A)) : List (Str × A) := (n_ways, .val (.list ([W 0, W 1, W 2, W 3, W 4].map nV))) :: (n_ring6, .val (.list (R.map nV))) :: r
theorem clo_rg (m : Nat) (w : List Nat) (k l o : Option V) (i : Nat) : closed m (rgM w k l o (List.replicate i none)) = true := by
  have h : ∀ i, closed m (List.replicate i none) = true := fun i => by
    induction i with
    | zero => rfl
    | succ i ih => rw [List.replicate_succ]; exact ih
  cases k <;> cases l <;> cases o <;> exact h i
theorem rg_at {w : List Nat} {k l o : Option V} {i : Nat} {x : Option M} : (rgM w k l o (List.replicate i none ++ [x]))[i + 1 + 1 + 1 + 1]? = some x := by
  show (List.replicate i none ++ [x])[i]? = _
  rw [List.getElem?_append_right (by rw [List.length_replicate]; exact Nat.le_refl _), List.length_replicate, Nat.sub_self]; rfl
theorem rg_set {w : List Nat} {k l o : Option V} {i : Nat} {x : Option M} : (rgM w k l o (List.replicate i none ++ [x])).set (i + 1 + 1 + 1 + 1) none = rgM w k l o (List.replicate (i + 1) none) := by
  show some _ :: some _ :: some _ :: some _ :: (List.replicate i none ++ [x]).set i none = _
  rw [List.set_append_right _ _ (by rw [List.length_replicate]; exact Nat.le_refl _), List.length_replicate, Nat.sub_self, List.replicate_succ']; rfl
noncomputable def pairV (ab : Nat × Nat) : V := .list [nV ab.1, nV ab.2]
noncomputable def RgS (w : List Nat) (W : Nat → Nat) (i : Nat) (R : List Nat) (σ : S) : Prop :=
  R.length = 10 ∧ ∃ r k l o, σ = ⟨rgL W R r, rgM w k l o (List.replicate i none)⟩ ∧ (r = [] ∨ ∃ p q t ps a b, r = [(n_p6, p), (n_q6, q), (n_then6, t), (n_pairs6, ps), (n_one6, a), (n_other6, b)])
noncomputable def RgJ (w : List Nat) (W : Nat → Nat) (i : Nat) (R : List Nat) (k : Nat) (σ : S) : Prop :=
  R.length = 10 ∧ ∃ r l o, σ = ⟨rgL W R r, rgM w (some (nV k)) l o (List.replicate i none)⟩ ∧ (r = [] ∨ ∃ p q t ps a b, r = [(n_p6, p), (n_q6, q), (n_then6, t), (n_pairs6, ps), (n_one6, a), (n_other6, b)])
noncomputable def RgQ (w : List Nat) (W : Nat → Nat) (i : Nat) (R : List Nat) (k p q : Nat) (σ : S) : Prop :=
  ∃ l o r, σ = ⟨rgL W R ((n_p6, .val (nV p)) :: (n_q6, .val (nV q)) :: (n_then6, .val (nV ((q + 1) % 10))) :: (n_pairs6, .plc (i + 1 + 1 + 1 + 1)) :: r), rgM w (some (nV k)) l o (List.replicate i none ++ [some (.lst ((prs (kW (W k)) p q).map pairV))])⟩ ∧ (r = [] ∨ ∃ a b, r = [(n_one6, a), (n_other6, b)])
noncomputable def RgP (w : List Nat) (W : Nat → Nat) (i : Nat) (k : Nat) (c : List (Str × A)) (m : Nat) (R : List Nat) (σ : S) : Prop :=
  R.length = 10 ∧ ∃ l o r, σ = ⟨rgL W R (c ++ r), rgM w (some (nV k)) l o (List.replicate i none)⟩ ∧ (r = [] ∧ m = 0 ∨ ∃ a b, r = [(n_one6, a), (n_other6, b)])
theorem prs_len : ∀ κ p q, (prs κ p q).length = 2
  | 0, _, _ => rfl
  | 1, _, _ => rfl
  | _ + 2, _, _ => rfl
theorem ways_at (W : Nat → Nat) : ∀ k, k < 5 → ([W 0, W 1, W 2, W 3, W 4].map nV)[k]? = some (nV (W k))
  | 0, _ => rfl
  | 1, _ => rfl
  | 2, _ => rfl
  | 3, _ => rfl
  | 4, _ => rfl
  | _ + 5, h => absurd h (by omega)
theorem merge_map (R : List Nat) (a b : Nat) : (R.map fun x => cond (decide (((x : Nat) : Int) = ((R.getD a 0 : Nat) : Int))) (nV (R.getD b 0)) (nV x)) = (mergeL R (a, b)).map nV := by
  unfold mergeL
  rw [List.map_map]
  refine List.map_congr_left fun x _ => ?_
  show _ = nV (cond (Nat.beq x (R.getD a 0)) (R.getD b 0) x)
  cases h : Nat.beq x (R.getD a 0) with
  | true => rw [Nat.eq_of_beq_eq_true h, decide_eq_true rfl]; rfl
  | false =>
    have : decide (((x : Nat) : Int) = ((R.getD a 0 : Nat) : Int)) = false := decide_eq_false fun e => Nat.ne_of_beq_eq_false h (Int.ofNat.inj e)
    rw [this]; rfl
theorem rep_len {i : Nat} {α : Type} {x : α} : (List.replicate i x).length + 1 + 1 + 1 + 1 = i + 1 + 1 + 1 + 1 := by rw [List.length_replicate]
theorem rings_run (n : Nat) (w : List Nat) (W P Q : Nat → Nat) (hw : w.length = 10) (hs : ∀ k, k < 5 → Occ w k (P k) (Q k)) :
    (run g2 (n + 70)).call [] n_law_rings [.val (.list (w.map nV)), .val (.list ([W 0, W 1, W 2, W 3, W 4].map nV))] = .ok (.list ((ringF (fun k => kW (W k)) P Q).map nV)) ⟨[], []⟩ := by
  (apply call_e; rfl; rfl; wtm_at "w"; wtm_at "w")
  apply en_cons
  · apply st_set; rfl
    · apply ex_bf; rfl; rfl; rfl; (wtm_at "x"); rfl
    · wtm_at "w"
  apply en_pass (P := RgS w W 5 (ringF (fun k => kW (W k)) P Q))
  · apply ps_for
    · wtm_at "x"
    · apply pf_eq (xs' := [0, 1, 2, 3, 4].map nV); rfl
      refine pf_foldN2 5 nV (ringK (fun k => kW (W k)) P Q) (fun k => k < 5) (RgS w W) (RgJ w W) ?_ ?_ [0, 1, 2, 3, 4] 0 (List.range 10) _ (Nat.le_refl 5) (by decide) ⟨rfl, [], none, none, none, rfl, .inl rfl⟩
      · rintro i R k σ ⟨hR, r, k', l, o, rfl, hr⟩ -
        apply Exists.intro; apply And.intro; wtm_at "w"; exact ⟨hR, r, l, o, rfl, hr⟩
      · rintro i R k σ hi ⟨hR, r, l, o, rfl, hr⟩ hk
        have ho := hs k hk
        have htw := two_occ hw ho
        have hkb : Nat.ble k 1000000 = true := Nat.ble_eq_true_of_le (by omega)
        have hwk := ways_at W k hk
        have hq : Q k < 10 := hw ▸ ho.len
        have hp : P k + 1 < 10 := Nat.lt_of_le_of_lt ho.lt hq
        apply ps_blk
        refine ps_pass (Q := fun σ => ∃ l o r, σ = ⟨rgL W R ((n_p6, .val (nV (P k))) :: (n_q6, .val (nV (Q k))) :: r), rgM w (some (nV k)) l o (List.replicate i none)⟩ ∧ (r = [] ∨ ∃ t ps a b, r = [(n_then6, t), (n_pairs6, ps), (n_one6, a), (n_other6, b)])) ?_ ?_
        · apply ps_unpack; rfl
          · apply ex_lcomp; apply comp_s (ys := [nV (P k), nV (Q k)]); rfl; rfl; wtm_at "x"; rfl
            · apply Exists.imp (fun σ' h => h)
              refine turns_filterM nV nV (fun i => decide (((w.getD i 0 : Nat) : Int) = (k : Int))) (fun i => i < 10) (fun σ => ∃ r, σ = ⟨r, rgM w (some (nV k)) l o (List.replicate i none)⟩ ∧ (r = [] ∨ ∃ x, r = [(n_place6, x)])) ?_ ?_ (List.range 10) (fun m hm => List.mem_range.mp hm) ⟨[], rfl, .inl rfl⟩ (congrArg (List.map nV) htw : _ = [P k, Q k].map nV)
              · rintro σ ⟨r, rfl, -⟩; rfl
              · rintro x σ ⟨r, rfl, hr⟩ hx
                have hg := at_w (hw.symm ▸ hx : x < w.length)
                have hxb : Nat.ble x 1000000 = true := Nat.ble_eq_true_of_le (by omega)
                rcases hr with rfl | ⟨y, rfl⟩
                all_goals
                  apply Exists.intro; apply And.intro; wtm_at "w"
                  apply Exists.intro; apply And.intro; (apply tests_one; apply tr_cmp; wtm_at "x")
                  exact ⟨⟨_, rfl, .inr ⟨_, rfl⟩⟩, fun _ => by wtm_at "x"⟩
            · rfl
            · exact clo_rg _ _ _ _ _ _
          · rcases hr with rfl | ⟨p, q, t, ps, a, b, rfl⟩
            · apply Exists.intro; apply And.intro; wtm_at "w"; exact ⟨l, o, _, rfl, .inl rfl⟩
            · apply Exists.intro; apply And.intro; wtm_at "w"; exact ⟨l, o, _, rfl, .inr ⟨_, _, _, _, rfl⟩⟩
        clear hr htw
        rintro σ ⟨l, o, r, rfl, hr⟩
        refine ps_pass (Q := fun σ => ∃ l o r, σ = ⟨rgL W R ((n_p6, .val (nV (P k))) :: (n_q6, .val (nV (Q k))) :: (n_then6, .val (nV ((Q k + 1) % 10))) :: r), rgM w (some (nV k)) l o (List.replicate i none)⟩ ∧ (r = [] ∨ ∃ ps a b, r = [(n_pairs6, ps), (n_one6, a), (n_other6, b)])) ?_ ?_
        · apply ps_set; rfl; wtm_at "x"
          rcases hr with rfl | ⟨t, ps, a, b, rfl⟩
          · apply Exists.intro; apply And.intro; wtm_at "w"; exact ⟨l, o, _, rfl, .inl rfl⟩
          · apply Exists.intro; apply And.intro; wtm_at "w"; exact ⟨l, o, _, rfl, .inr ⟨_, _, _, rfl⟩⟩
        clear hr
        rintro σ ⟨l, o, r, rfl, hr⟩
        refine ps_pass (Q := RgQ w W i R k (P k) (Q k)) ?_ ?_
        · apply ps_if
          · apply tr_cmp; wtm_at "x"
          · intro hc
            have hkw : kW (W k) = 0 := if_pos (Int.ofNat.inj (of_decide_eq_true hc))
            apply ps_blk; refine ps_pass (Q := RgQ w W i R k (P k) (Q k)) ?_ (fun _ h => ps_nil h)
            apply ps_setF; rfl; (apply F_list; wtm_at "x"; rfl); rfl; exact rep_len
            unfold RgQ; rw [hkw]
            rcases hr with rfl | ⟨ps, a, b, rfl⟩
            · apply Exists.intro; apply And.intro; wtm_at "w"; exact ⟨l, o, _, rfl, .inl rfl⟩
            · apply Exists.intro; apply And.intro; wtm_at "w"; exact ⟨l, o, _, rfl, .inr ⟨_, _, rfl⟩⟩
          · intro hc
            have hn0 : W k ≠ 0 := fun e => of_decide_eq_false hc (congrArg _ e)
            apply ps_blk; refine ps_pass (Q := RgQ w W i R k (P k) (Q k)) ?_ (fun _ h => ps_nil h)
            apply ps_if
            · apply tr_cmp; wtm_at "x"
            · intro hc
              have hkw : kW (W k) = 1 := (if_neg hn0).trans (if_pos (Int.ofNat_lt.mp (of_decide_eq_true hc)))
              apply ps_blk; refine ps_pass (Q := RgQ w W i R k (P k) (Q k)) ?_ (fun _ h => ps_nil h)
              apply ps_setF; rfl; (apply F_list; wtm_at "x"; rfl); rfl; exact rep_len
              unfold RgQ; rw [hkw]
              rcases hr with rfl | ⟨ps, a, b, rfl⟩
              · apply Exists.intro; apply And.intro; wtm_at "w"; exact ⟨l, o, _, rfl, .inl rfl⟩
              · apply Exists.intro; apply And.intro; wtm_at "w"; exact ⟨l, o, _, rfl, .inr ⟨_, _, rfl⟩⟩
            · intro hc
              have hkw : kW (W k) = 2 := (if_neg hn0).trans (if_neg fun e => of_decide_eq_false hc (Int.ofNat_lt.mpr e))
              apply ps_blk; refine ps_pass (Q := RgQ w W i R k (P k) (Q k)) ?_ (fun _ h => ps_nil h)
              apply ps_setF; rfl; (apply F_list; wtm_at "x"; rfl); rfl; exact rep_len
              unfold RgQ; rw [hkw]
              rcases hr with rfl | ⟨ps, a, b, rfl⟩
              · apply Exists.intro; apply And.intro; wtm_at "w"; exact ⟨l, o, _, rfl, .inl rfl⟩
              · apply Exists.intro; apply And.intro; wtm_at "w"; exact ⟨l, o, _, rfl, .inr ⟨_, _, rfl⟩⟩
        clear hr
        rintro σ ⟨l, o, r, rfl, hr⟩
        refine ps_pass (Q := RgP w W (i + 1) k [(n_p6, .val (nV (P k))), (n_q6, .val (nV (Q k))), (n_then6, .val (nV ((Q k + 1) % 10))), (n_pairs6, .val (.list ((prs (kW (W k)) (P k) (Q k)).map pairV)))] 2 (ringK (fun k => kW (W k)) P Q R k)) ?_ ?_
        · apply ps_for
          · apply src_e; rfl; (intro _ _ _ _ h; cases h)
            · apply ex_nameL; rfl; exact rg_at; exact rg_set; wtm_at "w"
            · rfl
          · have hL := prs_len (kW (W k)) (P k) (Q k)
            have e2 : (prs (kW (W k)) (P k) (Q k)).length + 0 = 2 := hL
            refine ps_mono ?_ (fun σ (h : RgP w W (i + 1) k _ ((prs (kW (W k)) (P k) (Q k)).length + 0) _ σ) => by rw [e2] at h; exact h)
            refine pf_foldN2 2 pairV mergeL (fun ab => ab.1 < 10 ∧ ab.2 < 10) (RgP w W (i + 1) k [(n_p6, .val (nV (P k))), (n_q6, .val (nV (Q k))), (n_then6, .val (nV ((Q k + 1) % 10))), (n_pairs6, .val (.list ((prs (kW (W k)) (P k) (Q k)).map pairV)))])
              (fun _ R ab σ => R.length = 10 ∧ ∃ l o, σ = ⟨rgL W R [(n_p6, .val (nV (P k))), (n_q6, .val (nV (Q k))), (n_then6, .val (nV ((Q k + 1) % 10))), (n_pairs6, .val (.list ((prs (kW (W k)) (P k) (Q k)).map pairV))), (n_one6, .val (nV ab.1)), (n_other6, .val (nV ab.2))], rgM w (some (nV k)) l o (List.replicate (i + 1) none)⟩) ?_ ?_ (prs (kW (W k)) (P k) (Q k)) 0 R _ (Nat.le_of_eq hL) (prs_lt hp hq) ⟨hR, l, o, r, rfl, hr.imp (fun h => ⟨h, rfl⟩) id⟩
            · rintro m R ⟨a, b⟩ σ ⟨hR, l, o, r, rfl, hr⟩ -
              rcases hr with ⟨rfl, -⟩ | ⟨y, z, rfl⟩
              · simp only [List.cons_append, List.nil_append]; apply Exists.intro; apply And.intro; (apply sg_lst (vs := [nV a, nV b]); wtm_at "w"); exact ⟨hR, l, o, rfl⟩
              · simp only [List.cons_append, List.nil_append]; apply Exists.intro; apply And.intro; (apply sg_lst (vs := [nV a, nV b]); wtm_at "w"); exact ⟨hR, l, o, rfl⟩
            · rintro m R ⟨a, b⟩ σ - ⟨hR, l, o, rfl⟩ ⟨ha, hb⟩
              have ha : a < 10 := ha
              have hb : b < 10 := hb
              have hga := at_w (hR.symm ▸ ha : a < R.length)
              have hgb := at_w (hR.symm ▸ hb : b < R.length)
              have hab : Nat.ble a 1000000 = true := Nat.ble_eq_true_of_le (by omega)
              have hbb : Nat.ble b 1000000 = true := Nat.ble_eq_true_of_le (by omega)
              apply ps_blk; apply ps_cons; wtm_at "x"
              apply ps_cons; wtm_at "x"
              apply ps_cons
              · apply st_setC
                · apply comp_s (ys := (mergeL R (a, b)).map nV); rfl; rfl; (apply src_e; rfl; (intro _ _ _ _ h; cases h); wtm_at "x"; rfl); rfl
                  · rw [← merge_map]
                    refine turns_foldM nV (fun x => cond (decide (((x : Nat) : Int) = ((R.getD a 0 : Nat) : Int))) (nV (R.getD b 0)) (nV x)) (fun _ => True) (fun σ => ∃ r, σ = ⟨r, rgM w (some (nV k)) (some (nV (R.getD a 0))) (some (nV (R.getD b 0))) (List.replicate (i + 1) none)⟩ ∧ (r = [] ∨ ∃ x, r = [(n_x6, x)])) ?_ ?_ R (fun _ _ => trivial) ⟨[], rfl, .inl rfl⟩
                    · rintro σ ⟨r, rfl, -⟩; rfl
                    · rintro x σ ⟨r, rfl, hr⟩ -
                      rcases hr with rfl | ⟨y, rfl⟩
                      all_goals
                        apply Exists.intro; apply And.intro; wtm_at "w"
                        apply Exists.intro; apply And.intro
                        · apply ex_if; (apply tr_cmp; wtm_at "x"); (intro _; wtm_at "x"); (intro _; wtm_at "x")
                        · exact ⟨_, rfl, .inr ⟨_, rfl⟩⟩
                  · refine Nat.ble_eq_true_of_le ?_
                    rw [List.length_map, mergeL, List.length_map, hR]; decide
                  · exact clo_rg _ w (some (nV k)) (some (nV (R.getD a 0))) (some (nV (R.getD b 0))) (i + 1)
                · wtm_at "w"
              apply ps_nil
              refine ⟨by rw [mergeL, List.length_map, hR], some (nV (R.getD a 0)), some (nV (R.getD b 0)), _, rfl, .inr ⟨_, _, rfl⟩⟩
        · rintro σ ⟨hR', l, o, r, rfl, hr⟩
          apply ps_nil
          rcases hr with ⟨-, h⟩ | ⟨a, b, rfl⟩
          · exact absurd h (by decide)
          · exact ⟨hR', _, _, l, o, rfl, .inr ⟨_, _, _, _, _, _, rfl⟩⟩
  · rintro σ ⟨-, r, k, l, o, rfl, hr⟩
    clear hr
    apply en_ret; wtm_at "x"
end

section
open PySem
set_option backward.match.sparseCases false
set_option maxRecDepth 100000
set_option maxHeartbeats 4000000
set_option linter.unusedVariables false
theorem xor_32 : ∀ x, x < 32 → ∀ y, y < 32 → (x ||| y) = (x ^^^ y) + (x &&& y) := by decide +kernel
theorem bo_xorn {a b : Int} {x y : Nat} (ha : a = (x : Int)) (hb : b = (y : Int)) (hx : x < 32) (hy : y < 32) : binop .BitXor (.int a) (.int b) = some (.int ((x ^^^ y : Nat) : Int)) := by
  subst ha; subst hb
  show some (V.int (Builtin.bitOr (x : Int) (y : Int) - Builtin.bitAnd (x : Int) (y : Int))) = _
  rw [bitOr_nat, bitAnd_nat, xor_32 x hx y hy, Int.natCast_add, Int.add_sub_cancel]
theorem idx_of {k : Int} : ∀ {l : List Int} {p : Nat}, l[p]? = some k → (∀ i, i < p → l[i]? ≠ some k) → l.idxOf k = p
  | [], p, h, _ => by simp at h
  | x :: l, 0, h, _ => by
    have : x = k := by simpa using h
    subst this; exact List.idxOf_cons_self
  | x :: l, p + 1, h, h2 => by
    have hx : x ≠ k := fun e => h2 0 (Nat.succ_pos _) (congrArg some e)
    rw [List.idxOf_cons, show (x == k) = false from beq_eq_false_iff_ne.mpr hx, idx_of (l := l) (p := p) h fun i hi => h2 (i + 1) (Nat.succ_lt_succ hi)]; rfl
theorem me_index {w : List Nat} {i : Int} {k p q : Nat} (hi : i = (k : Int)) (hw : w.length = 10) (hl : ∀ a ∈ w, a < 5) (h : Occ w k p q) : meth .index (.list (w.map nV)) [.int i] = some (.int ((p : Nat) : Int)) := by
  subst hi
  show (match intsOf (w.map nV) with | some is => cond (is.all smallI && Nat.ble is.length 1000 && is.any fun x => decide (x = (k : Int))) (some (V.int (Int.ofNat (is.idxOf (k : Int))))) none | none => none) = _
  rw [intsOf_nV]
  have e1 : (w.map fun (d : Nat) => (d : Int)).all smallI = true := by
    rw [List.all_map]
    refine List.all_eq_true.mpr fun x hx => ?_
    show Nat.ble ((x : Int)).natAbs 9223372036854775807 = true
    rw [Int.natAbs_natCast]
    exact Nat.ble_eq_true_of_le (Nat.le_trans (Nat.le_of_lt (hl x hx)) (by decide))
  have e2 : Nat.ble (w.map fun (d : Nat) => (d : Int)).length 1000 = true := by rw [List.length_map, hw]; rfl
  have e3 : ((w.map fun (d : Nat) => (d : Int)).any fun x => decide (x = (k : Int))) = true :=
    List.any_eq_true.mpr ⟨(k : Int), List.mem_map.mpr ⟨k, List.mem_of_getElem? h.at1, rfl⟩, decide_eq_true rfl⟩
  have e4 : (w.map fun (d : Nat) => (d : Int)).idxOf (k : Int) = p := by
    refine idx_of (by rw [List.getElem?_map, h.at1]; rfl) fun i hi e => ?_
    rw [List.getElem?_map] at e
    obtain ⟨x, hx, e⟩ := Option.map_eq_some_iff.mp e
    have := h.no i (by rw [hx, Int.ofNat.inj e])
    rcases this with z | z
    · exact absurd (z ▸ hi) (Nat.lt_irrefl _)
    · exact absurd (Nat.lt_trans (z ▸ hi) h.lt) (Nat.lt_irrefl _)
  show cond (_ && _ && _) _ _ = _
  rw [e1, e2, e3, e4]; rfl
noncomputable def n_trip7 : Str := ⟨#[116, 114, 105, 112]⟩
noncomputable def n_masks7 : Str := ⟨#[109, 97, 115, 107, 115]⟩
noncomputable def n_mask7 : Str := ⟨#[109, 97, 115, 107]⟩
noncomputable def n_label7 : Str := ⟨#[108, 97, 98, 101, 108]⟩
noncomputable def n_k7 : Str := ⟨#[107]⟩
noncomputable abbrev seL (w r : List Nat) (a : A) (c : List (Str × A)) : List (Str × A) := (n_trip7, .val (.list (w.map nV))) :: (n_ring6, .val (.list (r.map nV))) :: (n_masks7, a) :: c
noncomputable def Slot (N : List Nat) (a : A) (z : Option M) : Prop := a = .plc 1 ∧ z = some (.lst (N.map nV)) ∨ a = .val (.list (N.map nV)) ∧ z = none
noncomputable def SeS (w r : List Nat) (i : Nat) (N : List Nat) (σ : S) : Prop :=
  N.length ≤ 2 ^ i ∧ (∀ m ∈ N, m < 32) ∧ ∃ (a : A) (z : Option M) (c : Option V) (k : List (Str × A)), σ = ⟨seL w r a k, [some (.cell (Option.map A.val c)), z]⟩ ∧ Slot N a z ∧ (k = [] ∨ (∃ x, k = [(n_label7, x)]) ∨ ∃ x y u, k = [(n_label7, x), (n_k7, y), (n_place6, u)])
noncomputable def SeJ (w r : List Nat) (i : Nat) (N : List Nat) (l : Int) (σ : S) : Prop :=
  N.length ≤ 2 ^ i ∧ (∀ m ∈ N, m < 32) ∧ ∃ (a : A) (z : Option M) (c : Option V) (k : List (Str × A)), σ = ⟨seL w r a ((n_label7, .val (.int l)) :: k), [some (.cell (Option.map A.val c)), z]⟩ ∧ Slot N a z ∧ (k = [] ∨ ∃ y u, k = [(n_k7, y), (n_place6, u)])
noncomputable def SeK (w r : List Nat) (a : A) (z : Option M) (l : Int) (c : Nat) (σ : S) : Prop :=
  ∃ k, σ = ⟨seL w r a ((n_label7, .val (.int l)) :: k), [some (.cell (some (.val (nV c)))), z]⟩ ∧ (k = [] ∨ ∃ y u, k = [(n_k7, y), (n_place6, u)])
noncomputable abbrev labR (r : List Nat) (i : Nat) : Int := ((r.getD i 0 : Nat) : Int)
noncomputable def coreK (P : Nat → Nat) (r : List Nat) (l : Int) (c k : Nat) : Nat := cond (diff P (fun i => decide (labR r i = l)) k) (c + 2 ^ (4 - k)) c
theorem core_fold (P : Nat → Nat) (r : List Nat) (l : Int) : [0, 1, 2, 3, 4].foldl (coreK P r l) 0 = core P (labR r) l := by
  show coreK P r l (coreK P r l (coreK P r l (coreK P r l (coreK P r l 0 0) 1) 2) 3) 4 = b5 (diff P fun i => decide (labR r i = l))
  unfold coreK b5
  generalize (diff P fun i => decide (labR r i = l)) = f
  generalize f 0 = b0
  generalize f 1 = b1
  generalize f 2 = b2
  generalize f 3 = b3
  generalize f 4 = b4
  revert b0 b1 b2 b3 b4
  decide
theorem pow_sub : ∀ k : Nat, k < 5 → (4 - (k : Int)) = ((4 - k : Nat) : Int) := fun k h => by omega
theorem sets_run (n : Nat) (w r : List Nat) (P Q : Nat → Nat) (T : Trp w P Q) (hr : r.length = 10) (l0 : Int) (ls : List Int) (hL : sortI ((r.map fun (d : Nat) => (d : Int)).foldl addI []) = l0 :: ls) (hls : ls.length ≤ 9)
    (h64 : (ls.foldl (addM P (labR r)) [0]).length < 64) :
    (run g2 (n + 70)).call [] n_law_sets [.val (.list (w.map nV)), .val (.list (r.map nV))] = .ok (.list ((sortI ((ls.foldl (addM P (labR r)) [0]).map fun (d : Nat) => (d : Int))).map V.int)) ⟨[], []⟩ := by
  (apply call_e; rfl; rfl; wtm_at "w"; wtm_at "w")
  apply en_cons; wtm_at "x"
  apply en_pass (P := SeS w r (ls.length + 0) (ls.foldl (addM P (labR r)) [0]))
  · apply ps_for (xs := ls.map V.int)
    · apply src_e (v := .list (ls.map V.int)); rfl; (intro _ _ _ _ h; cases h)
      · apply ex_slicel (xs := (l0 :: ls).map V.int)
        · apply ex_sset; rfl; rfl; rfl; wtm_at "x"
          show (match intsOf (r.map nV) with | some is => cond (Nat.blt is.length 64) (some (V.list ((sortI (is.foldl addI [])).map V.int))) none | none => none) = _
          rw [intsOf_nV]
          show cond (Nat.blt (r.map fun (d : Nat) => (d : Int)).length 64) _ _ = _
          rw [List.length_map, hr, hL]; rfl
        · apply part_some; wtm_at "x"; rfl
        · apply part_none
        · apply part_none
        · refine Nat.ble_eq_true_of_le ?_
          rw [List.length_map, List.length_cons]
          exact Nat.le_trans (Nat.succ_le_succ hls) (by decide)
        · rfl
        · apply pick_from; rfl; (exact Nat.ble_eq_true_of_le (Nat.succ_le_succ (Nat.zero_le _))); rfl
      · rfl
    · refine pf_foldN2 9 V.int (addM P (labR r)) (fun _ => True) (SeS w r) (SeJ w r) ?_ ?_ ls 0 [0] _ hls (fun _ _ => trivial) ⟨by decide, by decide, _, _, none, [], rfl, .inl ⟨rfl, rfl⟩, .inl rfl⟩
      · rintro i M l σ ⟨hM, hM32, a, z, c, k, rfl, hS, hk⟩ -
        rcases hk with rfl | ⟨x, rfl⟩ | ⟨x, y, u, rfl⟩
        · apply Exists.intro; apply And.intro; wtm_at "w"; exact ⟨hM, hM32, a, z, c, [], rfl, hS, .inl rfl⟩
        · apply Exists.intro; apply And.intro; wtm_at "w"; exact ⟨hM, hM32, a, z, c, [], rfl, hS, .inl rfl⟩
        · apply Exists.intro; apply And.intro; wtm_at "w"; exact ⟨hM, hM32, a, z, c, _, rfl, hS, .inr ⟨_, _, rfl⟩⟩
      · rintro i M l σ hi ⟨hM, hM32, a, z, c, k, rfl, hS, hk⟩ -
        apply ps_blk; apply ps_cons; wtm_at "x"
        refine ps_pass (Q := SeK w r a z l (core P (labR r) l)) ?_ ?_
        · rw [← core_fold]
          apply ps_for
          · wtm_at "x"
          · apply pf_eq (xs' := [0, 1, 2, 3, 4].map nV); rfl
            refine pf_fold2 nV (coreK P r l) (fun k => k < 5) (SeK w r a z l) (fun c k σ => ∃ u, σ = ⟨seL w r a ((n_label7, .val (.int l)) :: (n_k7, .val (nV k)) :: u), [some (.cell (some (.val (nV c)))), z]⟩ ∧ (u = [] ∨ ∃ p, u = [(n_place6, p)])) ?_ ?_ _ 0 _ (by decide) ⟨k, rfl, hk⟩
            · rintro c k σ ⟨u, rfl, hu⟩ -
              rcases hu with rfl | ⟨x, y, rfl⟩
              · apply Exists.intro; apply And.intro; wtm_at "w"; exact ⟨_, rfl, .inl rfl⟩
              · apply Exists.intro; apply And.intro; wtm_at "w"; exact ⟨_, rfl, .inr ⟨_, rfl⟩⟩
            · rintro c k σ ⟨u, rfl, hu⟩ hk
              have o := T.occ k hk
              have hq : Q k < 10 := T.len ▸ o.len
              have hp : P k + 1 < 10 := Nat.lt_of_le_of_lt o.lt hq
              have hga := at_w (hr.symm ▸ Nat.lt_of_succ_lt hp : P k < r.length)
              have hgb := at_w (hr.symm ▸ hp : P k + 1 < r.length)
              have hab : Nat.ble (P k) 1000000 = true := Nat.ble_eq_true_of_le (by omega)
              have hbb : Nat.ble (P k + 1) 1000000 = true := Nat.ble_eq_true_of_le (by omega)
              have hps := pow_sub k hk
              apply ps_blk
              refine ps_pass (Q := fun σ => σ = ⟨seL w r a [(n_label7, .val (.int l)), (n_k7, .val (nV k)), (n_place6, .val (nV (P k)))], [some (.cell (some (.val (nV c)))), z]⟩) ?_ ?_
              · apply ps_set; rfl; (apply ex_meth; rfl; rfl; wtm_at "x"; wtm_at "x"; exact me_index rfl T.len T.lt o)
                rcases hu with rfl | ⟨p, rfl⟩
                all_goals (apply Exists.intro; apply And.intro; wtm_at "w"; rfl)
              rintro σ rfl
              refine ps_pass (Q := SeK w r a z l (coreK P r l c k)) ?_ (fun _ h => ps_nil h)
              have hb : ((decide (labR r (P k) = l)) != (decide (labR r (P k + 1) = l))) = diff P (fun i => decide (labR r i = l)) k := by
                show (_ != _) = (decide (labR r (P k) = l) ^^ decide (labR r (P k + 1) = l))
                cases decide (labR r (P k) = l) <;> cases decide (labR r (P k + 1) = l) <;> rfl
              apply ps_if
              · apply tr_cmp; apply cmp_v; rfl; (apply ex_cmp; wtm_at "x"); rfl; (apply ex_cmp; apply cmp_v; rfl; (apply ex_item; rfl; rfl; wtm_at "x"; (apply ex_bin; wtm_at "x"; wtm_at "x"; wtm_at "o"); wtm_at "q"); rfl; wtm_at "x"; wtm_at "q"); exact congrArg some hb
              · intro hc
                unfold coreK; rw [hc]
                apply ps_blk; apply ps_cons
                · apply st_aug; rfl; rfl; rfl; (apply ex_bin; wtm_at "x"; (apply ex_bin; wtm_at "x"; wtm_at "x"; rfl); (apply bo_pow2; rfl; exact hps; omega)); rfl; (apply bo_addn; rfl; rfl); wtm_at "w"
                · exact ps_nil ⟨_, rfl, .inr ⟨_, _, rfl⟩⟩
              · intro hc
                unfold coreK; rw [hc]
                apply ps_blk; exact ps_nil ⟨_, rfl, .inr ⟨_, _, rfl⟩⟩
        · rintro σ ⟨k, rfl, hk⟩
          have hc32 : core P (labR r) l < 32 := b5_lt _
          have hX : ∀ m ∈ addM P (labR r) M l, m < 32 := fun m hm => by
            rcases List.mem_append.mp hm with h | h
            · exact hM32 m h
            · obtain ⟨u, hu, rfl⟩ := List.mem_map.mp h
              exact Nat.xor_lt_two_pow (n := 5) (hM32 u hu) hc32
          have hXl : (addM P (labR r) M l).length ≤ 2 ^ (i + 1) := by
            unfold addM
            rw [List.length_append, List.length_map, Nat.pow_succ, Nat.mul_two]
            exact Nat.add_le_add hM hM
          have hv : M.map nV ++ (M.map fun m => nV (m ^^^ core P (labR r) l)) = (addM P (labR r) M l).map nV := by unfold addM; rw [List.map_append, List.map_map]; rfl
          have hM512 : M.length ≤ 512 := Nat.le_trans hM (Nat.pow_le_pow_right (by decide) (Nat.le_of_lt hi) : 2 ^ i ≤ 2 ^ 9)
          have hMm : (M.map nV).length ≤ 512 := by rw [List.length_map]; exact hM512
          have hMn : (M.map fun m => nV (m ^^^ core P (labR r) l)).length ≤ 512 := by rw [List.length_map]; exact hM512
          refine ps_pass (Q := SeS w r (i + 1) (addM P (labR r) M l)) ?_ (fun _ h => ps_nil h)
          have hend : SeS w r (i + 1) (addM P (labR r) M l) ⟨seL w r (.val (.list (M.map nV ++ M.map fun m => nV (m ^^^ core P (labR r) l)))) ((n_label7, .val (.int l)) :: k), [some (.cell (some (.val (nV (core P (labR r) l))))), none]⟩ := by
            rw [hv]
            refine ⟨hXl, hX, _, _, some (nV (core P (labR r) l)), _, rfl, .inr ⟨rfl, rfl⟩, ?_⟩
            rcases hk with rfl | ⟨y, u, rfl⟩
            · exact .inr (.inl ⟨_, rfl⟩)
            · exact .inr (.inr ⟨_, _, _, rfl⟩)
          clear hk
          rcases hS with ⟨rfl, rfl⟩ | ⟨rfl, rfl⟩
          all_goals
            apply ps_set; rfl
            · apply ex_bin; wtm_at "x"
              · apply ex_lcomp; apply comp_s (ys := M.map fun m => nV (m ^^^ core P (labR r) l)); rfl; rfl; (apply src_e; rfl; (intro _ _ _ _ h; cases h); wtm_at "x"; rfl); rfl
                · refine turns_foldM nV (fun m => nV (m ^^^ core P (labR r) l)) (fun m => m < 32) (fun σ => ∃ b, σ = ⟨b, [some (.cell (some (.val (nV (core P (labR r) l))))), none]⟩ ∧ (b = [] ∨ ∃ x, b = [(n_mask7, x)])) ?_ ?_ M hM32 ⟨[], rfl, .inl rfl⟩
                  · rintro σ ⟨b, rfl, -⟩; rfl
                  · rintro m σ ⟨b, rfl, hb⟩ hm
                    rcases hb with rfl | ⟨x, rfl⟩
                    all_goals
                      apply Exists.intro; apply And.intro; wtm_at "w"
                      apply Exists.intro; apply And.intro
                      · apply ex_bin; wtm_at "x"; wtm_at "x"; (apply bo_xorn; rfl; rfl; exact hm; exact hc32)
                      · exact ⟨_, rfl, .inr ⟨_, rfl⟩⟩
                · wtm_at "g"
                · rfl
              · wtm_at "o"
            · apply Exists.intro; apply And.intro; wtm_at "w"; exact hend
  · rintro σ ⟨hM, -, a, z, c, k, rfl, hS, hk⟩
    clear hk
    rcases hS with ⟨rfl, rfl⟩ | ⟨rfl, rfl⟩
    all_goals
      apply en_ret; apply st_ret; apply ex_sorted; rfl; rfl; rfl; wtm_at "x"
      show (match intsOf (List.map nV _) with | some is => cond (Nat.blt is.length 64) (some (V.list ((sortI is).map V.int))) none | none => none) = _
      rw [intsOf_nV]
      show cond (Nat.blt (List.map (fun (d : Nat) => (d : Int)) _).length 64) _ _ = _
      rw [List.length_map, Nat.blt_eq.mpr h64]; rfl
end

section
open PySem
set_option backward.match.sparseCases false
set_option maxRecDepth 100000
set_option linter.unusedVariables false
set_option maxHeartbeats 4000000
theorem crX_self (P Q : Nat → Nat) (k : Nat) : crX P Q k k = false := by
  cases h : crX P Q k k with
  | false => rfl
  | true =>
    rcases crsP_iff.mp h with z | z
    · exact absurd z.1 (Nat.lt_irrefl _)
    · exact absurd z.1 (Nat.lt_irrefl _)
theorem crX_comm (P Q : Nat → Nat) (k l : Nat) : crX P Q k l = crX P Q l k := crsP_comm _ _ _ _
noncomputable def b5v (a b c d e : Bool) : Nat := cond a 1 0 + cond b 2 0 + cond c 4 0 + cond d 8 0 + cond e 16 0
noncomputable def rX (b10 b20 b21 b30 b31 b32 b40 b41 b42 b43 : Bool) : List Nat :=
  updX b43 4 3 (updX b42 4 2 (updX b41 4 1 (updX b40 4 0 (updX b32 3 2 (updX b31 3 1 (updX b30 3 0 (updX b21 2 1 (updX b20 2 0 (updX b10 1 0 [0, 0, 0, 0, 0])))))))))
theorem rX_eq : ∀ b10 b20 b21 b30 b31 b32 b40 b41 b42 b43 : Bool, rX b10 b20 b21 b30 b31 b32 b40 b41 b42 b43 =
    [b5v false b10 b20 b30 b40, b5v b10 false b21 b31 b41, b5v b20 b21 false b32 b42, b5v b30 b31 b32 false b43, b5v b40 b41 b42 b43 false] := by decide +kernel
section
variable {c : Nat → Nat} {w : List Nat} {P Q : Nat → Nat} (hc : Sgn c) (h : Good5 w) (T : Trp w P Q) (ho : ∀ a b, a < b → b < 5 → P b < P a)
include hc h T ho
theorem m4_cr {i j : Nat} (hj : j < i) (hi : i < 5) : m4 (TW c w) (c (4 - j)) (c (4 - i)) = crX P Q (4 - i) (4 - j) := by
  have hi4 : 4 - i < 5 := by omega
  have hj4 : 4 - j < 5 := by omega
  have hlt := ho (4 - i) (4 - j) (by omega) hj4
  rw [tw_m4 hc h hj4 hi4 (T.occ _ hj4) (T.occ _ hi4) (by omega)]
  unfold crX crsP
  rw [decide_eq_false (fun z => Nat.lt_asymm hlt z.1 : ¬ (P (4 - i) < P (4 - j) ∧ P (4 - j) < Q (4 - i) ∧ Q (4 - i) < Q (4 - j)))]
  exact (Bool.false_or _).symm
theorem rows_cr : rowsX (TW c w) c = [b5 (crX P Q 4), b5 (crX P Q 3), b5 (crX P Q 2), b5 (crX P Q 1), b5 (crX P Q 0)] := by
  have e := fun i j hj hi => m4_cr hc h T ho (i := i) (j := j) hj hi
  have e0 : rowsX (TW c w) c = rX (m4 (TW c w) (c (4 - 0)) (c (4 - 1))) (m4 (TW c w) (c (4 - 0)) (c (4 - 2))) (m4 (TW c w) (c (4 - 1)) (c (4 - 2))) (m4 (TW c w) (c (4 - 0)) (c (4 - 3))) (m4 (TW c w) (c (4 - 1)) (c (4 - 3))) (m4 (TW c w) (c (4 - 2)) (c (4 - 3)))
      (m4 (TW c w) (c (4 - 0)) (c (4 - 4))) (m4 (TW c w) (c (4 - 1)) (c (4 - 4))) (m4 (TW c w) (c (4 - 2)) (c (4 - 4))) (m4 (TW c w) (c (4 - 3)) (c (4 - 4))) := rfl
  rw [e0, rX_eq, e 1 0 (by decide) (by decide), e 2 0 (by decide) (by decide), e 2 1 (by decide) (by decide), e 3 0 (by decide) (by decide), e 3 1 (by decide) (by decide), e 3 2 (by decide) (by decide),
    e 4 0 (by decide) (by decide), e 4 1 (by decide) (by decide), e 4 2 (by decide) (by decide), e 4 3 (by decide) (by decide)]
  unfold b5
  rw [crX_self, crX_self, crX_self, crX_self, crX_self, crX_comm P Q 4 3, crX_comm P Q 4 2, crX_comm P Q 4 1, crX_comm P Q 4 0, crX_comm P Q 3 2, crX_comm P Q 3 1, crX_comm P Q 3 0, crX_comm P Q 2 1, crX_comm P Q 2 0, crX_comm P Q 1 0]
  rfl
end
noncomputable def rowF (κ a : Nat) (f : Nat → Bool) (k : Nat) : Bool := match κ with
  | 0 => decide (a = k)
  | 1 => f k
  | _ => decide (a = k) ^^ f k
theorem row_pow : ∀ a, a < 5 → 2 ^ (4 - a) = b5 fun k => decide (a = k) := by decide
theorem row_add : ∀ a, a < 5 → ∀ b0 b1 b2 b3 b4 : Bool, [b0, b1, b2, b3, b4].getD a true = false → (cond b4 1 0 + cond b3 2 0 + cond b2 4 0 + cond b1 8 0 + cond b0 16 0) + 2 ^ (4 - a) =
    cond (decide (a = 4) ^^ b4) 1 0 + cond (decide (a = 3) ^^ b3) 2 0 + cond (decide (a = 2) ^^ b2) 4 0 + cond (decide (a = 1) ^^ b1) 8 0 + cond (decide (a = 0) ^^ b0) 16 0 := by decide
theorem row_b5 {κ a : Nat} (hκ : κ < 3) (ha : a < 5) {f : Nat → Bool} (hf : f a = false) : [2 ^ (4 - a), b5 f, b5 f + 2 ^ (4 - a)].getD κ 0 = b5 (rowF κ a f) := by
  match κ, hκ with
  | 0, _ => exact row_pow a ha
  | 1, _ => rfl
  | 2, _ =>
    refine row_add a ha (f 0) (f 1) (f 2) (f 3) (f 4) ?_
    match a, ha with
    | 0, _ => exact hf
    | 1, _ => exact hf
    | 2, _ => exact hf
    | 3, _ => exact hf
    | 4, _ => exact hf
theorem odd_bt : ∀ x, x < 32 → oddF.getD x 0 = cond (x5 (bt x)) 1 0 := by decide
theorem odd_and {m : Nat} (hm : m < 32) (f : Nat → Bool) : oddF.getD (m &&& b5 f) 0 = cond (x5 fun k => f k && bt m k) 1 0 := by
  rw [odd_bt _ (Nat.lt_of_le_of_lt Nat.and_le_left hm)]
  congr 1
  refine x5_congr fun k hk => ?_
  show (m &&& b5 f).testBit (4 - k) = _
  rw [Nat.testBit_and]
  show (bt m k && bt (b5 f) k) = _
  rw [b5_bt f hk, Bool.and_comm]
theorem row_cnd {κ a : Nat} (hκ : κ < 3) (ha : a < 5) (f : Nat → Bool) (m : Nat) : (x5 fun k => rowF κ a f k && bt m k) = !cnd κ (bt m a) (x5 fun k => f k && bt m k) := by
  match κ, hκ with
  | 0, _ => 
    show x5 (fun k => decide (a = k) && bt m k) = !!bt m a
    rw [x5_one ha, Bool.not_not]
  | 1, _ => 
    show x5 (fun k => f k && bt m k) = !!x5 (fun k => f k && bt m k)
    rw [Bool.not_not]
  | 2, _ =>
    show x5 (fun k => (decide (a = k) ^^ f k) && bt m k) = !!(x5 (fun k => f k && bt m k) ^^ bt m a)
    rw [Bool.not_not, x5_congr (g := fun k => (decide (a = k) && bt m k) ^^ (f k && bt m k)) (fun k _ => and_xor _ _ _), x5_xor, x5_one ha, Bool.xor_comm]
theorem sum_zero : ∀ a b c d e : Bool, (([cond (!a) 1 0, cond (!b) 1 0, cond (!c) 1 0, cond (!d) 1 0, cond (!e) 1 0] : List Int).sum = 0) ↔ (a = true ∧ b = true ∧ c = true ∧ d = true ∧ e = true) := by decide
theorem five_all {p : Nat → Prop} : (p 4 ∧ p 3 ∧ p 2 ∧ p 1 ∧ p 0) ↔ ∀ k, k < 5 → p k :=
  ⟨fun ⟨h4, h3, h2, h1, h0⟩ k hk => match k, hk with
    | 0, _ => h0
    | 1, _ => h1
    | 2, _ => h2
    | 3, _ => h3
    | 4, _ => h4, fun h => ⟨h 4 (by decide), h 3 (by decide), h 2 (by decide), h 1 (by decide), h 0 (by decide)⟩⟩
theorem ev_iff {c : Nat → Nat} {w : List Nat} {P Q κ : Nat → Nat} (hc : Sgn c) (h : Good5 w) (T : Trp w P Q) (ho : ∀ a b, a < b → b < 5 → P b < P a) (hκ : ∀ k, k < 5 → κ k < 3) {m : Nat} (hm : m < 32) :
    evS [rowN κ (rowsX (TW c w) c) 0, rowN κ (rowsX (TW c w) c) 1, rowN κ (rowsX (TW c w) c) 2, rowN κ (rowsX (TW c w) c) 3, rowN κ (rowsX (TW c w) c) 4] m = 0 ↔ ∀ k, k < 5 → cnd (κ k) (bt m k) (x5 fun l => crX P Q k l && bt m l) = true := by
  rw [rows_cr hc h T ho]
  have r : ∀ a, a < 5 → oddF.getD (m &&& [2 ^ (4 - a), b5 (crX P Q a), b5 (crX P Q a) + 2 ^ (4 - a)].getD (κ a) 0) 0 = cond (!cnd (κ a) (bt m a) (x5 fun l => crX P Q a l && bt m l)) 1 0 := fun a ha => by
    rw [row_b5 (hκ a ha) ha (crX_self P Q a), odd_and hm, row_cnd (hκ a ha) ha]
  have e : evS [rowN κ [b5 (crX P Q 4), b5 (crX P Q 3), b5 (crX P Q 2), b5 (crX P Q 1), b5 (crX P Q 0)] 0, rowN κ [b5 (crX P Q 4), b5 (crX P Q 3), b5 (crX P Q 2), b5 (crX P Q 1), b5 (crX P Q 0)] 1,
      rowN κ [b5 (crX P Q 4), b5 (crX P Q 3), b5 (crX P Q 2), b5 (crX P Q 1), b5 (crX P Q 0)] 2, rowN κ [b5 (crX P Q 4), b5 (crX P Q 3), b5 (crX P Q 2), b5 (crX P Q 1), b5 (crX P Q 0)] 3,
      rowN κ [b5 (crX P Q 4), b5 (crX P Q 3), b5 (crX P Q 2), b5 (crX P Q 1), b5 (crX P Q 0)] 4] m =
    ([cond (!cnd (κ 4) (bt m 4) (x5 fun l => crX P Q 4 l && bt m l)) 1 0, cond (!cnd (κ 3) (bt m 3) (x5 fun l => crX P Q 3 l && bt m l)) 1 0, cond (!cnd (κ 2) (bt m 2) (x5 fun l => crX P Q 2 l && bt m l)) 1 0,
      cond (!cnd (κ 1) (bt m 1) (x5 fun l => crX P Q 1 l && bt m l)) 1 0, cond (!cnd (κ 0) (bt m 0) (x5 fun l => crX P Q 0 l && bt m l)) 1 0] : List Int).sum := by
    rw [← r 4 (by decide), ← r 3 (by decide), ← r 2 (by decide), ← r 1 (by decide), ← r 0 (by decide)]; rfl
  rw [e, sum_zero]
  exact five_all (p := fun k => cnd (κ k) (bt m k) (x5 fun l => crX P Q k l && bt m l) = true)
theorem fold_add : ∀ (is σ : List Int), σ.Nodup → (is.foldl addI σ).Nodup ∧ ∀ x, x ∈ is.foldl addI σ ↔ x ∈ σ ∨ x ∈ is
  | [], σ, h => ⟨h, fun x => by simp⟩
  | k :: is, σ, h => by
    have hk : (addI σ k).Nodup ∧ ∀ x, x ∈ addI σ k ↔ x ∈ σ ∨ x = k := by
      unfold addI
      cases q : σ.any fun y => decide (k = y) with
      | true =>
        have hm : k ∈ σ := any_mem.mp q
        exact ⟨h, fun x => ⟨.inl, fun z => z.elim id fun e => e ▸ hm⟩⟩
      | false =>
        have hm : k ∉ σ := fun z => by rw [any_mem.mpr z] at q; cases q
        exact ⟨List.nodup_cons.mpr ⟨hm, h⟩, fun x => by rw [cond_false, List.mem_cons]; exact Or.comm⟩
    obtain ⟨h1, h2⟩ := fold_add is (addI σ k) hk.1
    refine ⟨h1, fun x => ?_⟩
    rw [List.foldl_cons, h2, hk.2, List.mem_cons, or_assoc]
theorem labels {r : List Nat} (hr : r.length = 10) : ∃ l0 ls, sortI ((r.map fun (d : Nat) => (d : Int)).foldl addI []) = l0 :: ls ∧ ls.length ≤ 9 ∧ (l0 :: ls).Nodup ∧ ∀ x, x ∈ l0 :: ls ↔ ∃ i, i < 10 ∧ ((r.getD i 0 : Nat) : Int) = x := by
  obtain ⟨n1, n2⟩ := fold_add (r.map fun (d : Nat) => (d : Int)) [] .nil
  have hp := sortI_perm ((r.map fun (d : Nat) => (d : Int)).foldl addI [])
  have hlen : (sortI ((r.map fun (d : Nat) => (d : Int)).foldl addI [])).length ≤ 10 := by
    rw [hp.length_eq]
    refine Nat.le_trans (foldI_len _ _) ?_
    rw [List.length_map, hr]; exact Nat.le_refl _
  have hm : ∀ x, x ∈ sortI ((r.map fun (d : Nat) => (d : Int)).foldl addI []) ↔ ∃ i, i < 10 ∧ ((r.getD i 0 : Nat) : Int) = x := fun x => by
    rw [hp.mem_iff, n2]
    constructor
    · rintro (z | z)
      · cases z
      · obtain ⟨d, hd, e⟩ := List.mem_map.mp z
        obtain ⟨i, hi, e'⟩ := List.getElem_of_mem hd
        refine ⟨i, hr ▸ hi, ?_⟩
        rw [getD_of hi, e']; exact e
    · rintro ⟨i, hi, e⟩
      have hi' : i < r.length := hr.symm ▸ hi
      refine .inr (List.mem_map.mpr ⟨_, List.getElem_mem hi', ?_⟩)
      rw [← getD_of hi']; exact e
  have hn := hp.nodup_iff.mpr n1
  generalize sortI ((r.map fun (d : Nat) => (d : Int)).foldl addI []) = l at hlen hm hn
  cases l with
  | nil => exact absurd ((hm _).mpr ⟨0, by decide, rfl⟩) List.not_mem_nil
  | cons l0 ls => exact ⟨l0, ls, rfl, Nat.le_of_succ_le_succ hlen, hn, hm⟩
theorem masks_sorted {M : List Nat} {p : Nat → Prop} [DecidablePred p] (hn : M.Nodup) (hm : ∀ m, m ∈ M ↔ m < 32 ∧ p m) :
    M.length < 64 ∧ (sortI (M.map fun (d : Nat) => (d : Int))) = ((List.range 32).filter fun m => decide (p m)).map fun (d : Nat) => (d : Int) := by
  have hE : ((List.range 32).filter fun m => decide (p m)).Nodup := List.Pairwise.filter _ List.nodup_range
  have hP : ((List.range 32).filter fun m => decide (p m)).Perm M := (List.perm_ext_iff_of_nodup hE hn).mpr fun a => by
    rw [hm, List.mem_filter, List.mem_range, decide_eq_true_iff]
  refine ⟨?_, (sortI_uniq (hP.map _) ?_).symm⟩
  · rw [← hP.length_eq]
    exact Nat.lt_of_le_of_lt (List.length_filter_le _ _) (by decide)
  · refine List.pairwise_map.mpr ((List.Pairwise.filter _ List.pairwise_lt_range).imp fun {a b} hab => ?_)
    exact Int.ofNat_le.mpr (Nat.le_of_lt hab)
end

section
open PySem
set_option backward.match.sparseCases false
set_option maxRecDepth 100000
set_option maxHeartbeats 4000000
set_option linter.unusedVariables false
noncomputable def wntB (a b : Nat) : Bool :=
  decide (Txt.split (wantS ⟨#[a]⟩ ⟨#[b]⟩) dots = [⟨#[40]⟩, ⟨#[a]⟩, ⟨#[b]⟩, ⟨#[a]⟩, ⟨#[b]⟩, ⟨#[41]⟩]) && decide ((!(!(Builtin.Str.occurrences (wantS ⟨#[a]⟩ ⟨#[b]⟩) dots 0 (wantS ⟨#[a]⟩ ⟨#[b]⟩).length 1).isEmpty)) = false) &&
  (Nat.ble (wantS ⟨#[a]⟩ ⟨#[b]⟩).length lim && !Nat.beq dots.length 0) && JoinOk dots [⟨#[a]⟩, ⟨#[b]⟩, ⟨#[a]⟩, ⟨#[b]⟩] && decide ((Txt.join dots [⟨#[a]⟩, ⟨#[b]⟩, ⟨#[a]⟩, ⟨#[b]⟩]).length ≤ 1000)
theorem wnt_ofB {a b : Nat} (h : wntB a b = true) : Wnt a b := by
  unfold wntB at h
  simp only [Bool.and_eq_true, decide_eq_true_eq] at h
  obtain ⟨⟨⟨⟨h1, h2⟩, h3⟩, h4⟩, h5⟩ := h
  exact ⟨h1, h2, by simpa using h3, h4, h5⟩
theorem wnt12 : (List.range 12).all (fun i => (List.range 12).all fun j => (Nat.beq i j || Nat.ble (i + 5) j || Nat.ble (j + 5) i) || wntB (sg12 i) (sg12 j)) = true := by decide +kernel
theorem sg12_inj : ∀ i, i < 12 → ∀ j, j < 12 → sg12 i = sg12 j → i = j := by decide
theorem sg12_ne : ∀ i, i < 12 → sg12 i ≠ 40 ∧ sg12 i ≠ 41 := by decide
noncomputable def cS (s k : Nat) : Nat := sg12 (s + k)
theorem sgn_c {s : Nat} (hs : s < 8) : Sgn (cS s) := by
  refine ⟨fun i hi j hj e => ?_, fun i hi => ?_, fun i hi => ?_⟩
  · have := sg12_inj (s + i) (by omega) (s + j) (by omega) e; omega
  · exact (sg12_ne (s + i) (by omega)).1
  · exact (sg12_ne (s + i) (by omega)).2
theorem wnt_c {s : Nat} (hs : s < 8) : ∀ i, i < 5 → ∀ j, j < 5 → i ≠ j → Wnt (cS s i) (cS s j) := fun i hi j hj ne => by
  have h := wnt12
  rw [List.all_eq_true] at h
  have h1 := h (s + i) (List.mem_range.mpr (by omega))
  rw [List.all_eq_true] at h1
  have h2 := h1 (s + j) (List.mem_range.mpr (by omega))
  rw [Bool.or_eq_true] at h2
  rcases h2 with h2 | h2
  · rw [Bool.or_eq_true, Bool.or_eq_true] at h2
    rcases h2 with (h2 | h2) | h2
    · exact absurd (Nat.add_left_cancel (Nat.eq_of_beq_eq_true h2)) ne
    · have := Nat.le_of_ble_eq_true h2; omega
    · have := Nat.le_of_ble_eq_true h2; omega
  · exact wnt_ofB h2
theorem cod_c {s k : Nat} (hs : s < 8) (hk : k < 5) : SgOk (cod (s + k)) ∧ sgnOf (cod (s + k)) = cS s k := sgOk_cod (s + k) (by omega)
noncomputable def itm (s : Nat) (wy : Nat → Nat) : List Nat → List Nat → List Itm
  | _, [] => []
  | Ps, k :: w => (cod (s + k), cond (inP Ps k) (some (wy k)) none) :: itm s wy (Ps ++ [k]) w
noncomputable def itsF (s : Nat) (wy : Nat → Nat) (w : List Nat) : List Itm := (7, none) :: (itm s wy [] w ++ [(8, none)])
theorem nums_itm (s : Nat) (wy : Nat → Nat) : ∀ (w N Ps : List Nat), (w.foldl (numS s wy) (N, Ps)).1 = N ++ (itm s wy Ps w).flatMap flatI
  | [], N, Ps => (List.append_nil _).symm
  | k :: w, N, Ps => by
    show (w.foldl (numS s wy) (N ++ [cod (s + k)] ++ cond (inP Ps k) [wy k] [], Ps ++ [k])).1 = N ++ ((cod (s + k), cond (inP Ps k) (some (wy k)) none) :: itm s wy (Ps ++ [k]) w).flatMap flatI
    rw [nums_itm s wy w, List.flatMap_cons, ← List.append_assoc]
    congr 1
    rw [List.append_assoc]
    cases inP Ps k <;> rfl
theorem tape_itm (s : Nat) (wy : Nat → Nat) (w : List Nat) : tapeF s wy w = enc ((itsF s wy w).flatMap flatI) := by
  unfold tapeF numsF itsF
  rw [enc_foldl, List.nil_append, nums_itm, List.flatMap_cons, List.flatMap_append]
  rfl
theorem itm_len (s : Nat) (wy : Nat → Nat) : ∀ (w Ps : List Nat), (itm s wy Ps w).length = w.length
  | [], _ => rfl
  | k :: w, Ps => by
    show (itm s wy (Ps ++ [k]) w).length + 1 = w.length + 1
    rw [itm_len s wy w]
theorem inP_iff {Ps : List Nat} {k : Nat} : inP Ps k = decide (k ∈ Ps) := by
  unfold inP
  rw [Bool.eq_iff_iff, List.any_eq_true, decide_eq_true_iff]
  constructor
  · rintro ⟨z, hz, e⟩
    obtain ⟨d, hd, rfl⟩ := List.mem_map.mp hz
    have : k = d := Int.ofNat.inj (of_decide_eq_true e)
    rw [this]; exact hd
  · exact fun h => ⟨_, List.mem_map.mpr ⟨k, h, rfl⟩, decide_eq_true rfl⟩
theorem c_mem {s : Nat} (hs : s < 8) {Ps : List Nat} {k : Nat} (hk : k < 5) (hP : ∀ a ∈ Ps, a < 5) : cS s k ∈ 40 :: Ps.map (cS s) ↔ k ∈ Ps := by
  have hc := sgn_c hs
  rw [List.mem_cons, List.mem_map]
  constructor
  · rintro (e | ⟨a, ha, e⟩)
    · exact absurd e (hc.n40 k hk)
    · rw [← hc.inj a (hP a ha) k hk e]; exact ha
  · exact fun h => .inr ⟨k, h, rfl⟩
theorem fit_itm {s : Nat} (hs : s < 8) {wy : Nat → Nat} (hy : ∀ k, k < 5 → wy k < 1073741824) : ∀ (w Ps : List Nat), (∀ a ∈ w, a < 5) → (∀ a ∈ Ps, a < 5) → Fit (40 :: Ps.map (cS s)) (itm s wy Ps w ++ [(8, none)])
  | [], Ps, _, hP => by
    refine ⟨decide_eq_false fun z => ?_, ⟨⟨rfl, by decide⟩, fun y e => (nomatch e)⟩, trivial⟩
    have z : (41 : Nat) ∈ 40 :: Ps.map (cS s) := z
    rcases List.mem_cons.mp z with e | z
    · exact absurd e (by decide)
    · obtain ⟨a, ha, e⟩ := List.mem_map.mp z
      exact (sgn_c hs).n41 a (hP a ha) e
  | k :: w, Ps, hw, hP => by
    have hk := hw k (List.mem_cons_self ..)
    obtain ⟨c1, c2⟩ := cod_c hs hk
    refine ⟨?_, ⟨c1, fun y e => ?_⟩, ?_⟩
    · show decide (sgnOf (cod (s + k)) ∈ _) = (cond (inP Ps k) (some (wy k)) none).isSome
      rw [c2, inP_iff, decide_eq_decide.mpr (c_mem hs hk hP)]
      cases decide (k ∈ Ps) <;> rfl
    · have e : cond (inP Ps k) (some (wy k)) none = some y := e
      cases q : inP Ps k with
      | false => rw [q] at e; cases e
      | true => rw [q] at e; rw [← Option.some.inj e]; exact hy k hk
    · show Fit ((40 :: Ps.map (cS s)) ++ [sgnOf (cod (s + k))]) _
      have ih := fit_itm hs hy w (Ps ++ [k]) (fun a ha => hw a (List.mem_cons_of_mem _ ha)) fun a ha => by
        rcases List.mem_append.mp ha with h | h
        · exact hP a h
        · rw [List.mem_singleton.mp h]; exact hk
      rw [List.map_append] at ih
      rw [c2]; exact ih
theorem fit_its {s : Nat} (hs : s < 8) {wy : Nat → Nat} (hy : ∀ k, k < 5 → wy k < 1073741824) {w : List Nat} (hw : ∀ a ∈ w, a < 5) : Fit [] (itsF s wy w) :=
  ⟨rfl, ⟨⟨rfl, by decide⟩, fun y e => (nomatch e)⟩, fit_itm hs hy w [] hw fun a ha => (nomatch ha)⟩
theorem read_text : ∀ (bs : List Itm) (a : Acc), (bs.foldl readI a).1 = a.1 ++ bs.map fun b => sgnOf b.1
  | [], a => (List.append_nil _).symm
  | b :: bs, a => by
    rw [List.foldl_cons, read_text bs, List.map_cons]
    show a.1 ++ [sgnOf b.1] ++ _ = _
    rw [List.append_assoc]; rfl
theorem itm_signs {s : Nat} (hs : s < 8) (wy : Nat → Nat) : ∀ (w Ps : List Nat), (∀ a ∈ w, a < 5) → (itm s wy Ps w).map (fun b => sgnOf b.1) = w.map (cS s)
  | [], _, _ => rfl
  | k :: w, Ps, hw => by
    show sgnOf (cod (s + k)) :: (itm s wy (Ps ++ [k]) w).map (fun b => sgnOf b.1) = cS s k :: w.map (cS s)
    rw [(cod_c hs (hw k (List.mem_cons_self ..))).2, itm_signs hs wy w _ fun a ha => hw a (List.mem_cons_of_mem _ ha)]
theorem its_text {s : Nat} (hs : s < 8) (wy : Nat → Nat) {w : List Nat} (hw : ∀ a ∈ w, a < 5) : ((itsF s wy w).foldl readI ([], ([], []))).1 = twL (cS s) w := by
  rw [read_text, List.nil_append]
  unfold itsF
  rw [List.map_cons, List.map_append, itm_signs hs wy w [] hw]
  rfl
theorem lk_put : ∀ (K : List Str) (vs : List V) (x : Str) (y : V), K.length = vs.length → ∃ K' : List Str, (putV (K.map V.str) vs (.str x) y).1 = K'.map V.str ∧ K'.length = (putV (K.map V.str) vs (.str x) y).2.length ∧
    ∀ z, lkV (putV (K.map V.str) vs (.str x) y).1 (putV (K.map V.str) vs (.str x) y).2 (.str z) = cond (nEq z x) (some y) (lkV (K.map V.str) vs (.str z))
  | [], [], x, y, _ => ⟨[x], rfl, rfl, fun z => rfl⟩
  | [], _ :: _, _, _, h => nomatch h
  | _ :: _, [], _, _, h => nomatch h
  | k :: K, v :: vs, x, y, h => by
    have e : putV ((k :: K).map V.str) (v :: vs) (.str x) y = cond (nEq x k) ((k :: K).map V.str, y :: vs) (V.str k :: (putV (K.map V.str) vs (.str x) y).1, v :: (putV (K.map V.str) vs (.str x) y).2) := rfl
    rw [e]
    cases q : nEq x k with
    | true =>
      refine ⟨k :: K, rfl, h, fun z => ?_⟩
      show cond (nEq z k) (some y) (lkV (K.map V.str) vs (.str z)) = cond (nEq z x) (some y) (cond (nEq z k) (some v) (lkV (K.map V.str) vs (.str z)))
      rw [nEq_iff.mp q]
      cases nEq z k <;> rfl
    | false =>
      obtain ⟨K', h1, h2, h3⟩ := lk_put K vs x y (Nat.succ.inj h)
      refine ⟨k :: K', congrArg (V.str k :: ·) h1, congrArg Nat.succ h2, fun z => ?_⟩
      show cond (nEq z k) (some v) (lkV (putV (K.map V.str) vs (.str x) y).1 (putV (K.map V.str) vs (.str x) y).2 (.str z)) = cond (nEq z x) (some y) (cond (nEq z k) (some v) (lkV (K.map V.str) vs (.str z)))
      rw [h3]
      cases q1 : nEq z k with
      | false => rfl
      | true =>
        cases q2 : nEq z x with
        | false => rfl
        | true => rw [← nEq_iff.mp q1, ← nEq_iff.mp q2, nEq_iff.mpr rfl] at q; cases q
structure Tab (s : Nat) (wy : Nat → Nat) (Ps : List Nat) (ks vs : List V) : Prop where
  keys : ∃ K : List Str, ks = K.map V.str ∧ K.length = vs.length
  two : ∀ k, k < 5 → 2 ≤ Ps.count k → lkV ks vs (.str ⟨#[cS s k]⟩) = some (kindV (wy k))
  no : ∀ a, (∀ k, k < 5 → a ≠ cS s k) → lkV ks vs (.str ⟨#[a]⟩) = none
theorem one_eq {a b : Nat} : nEq ⟨#[a]⟩ ⟨#[b]⟩ = Nat.beq a b := by
  show cond (Nat.beq a b) true false = _
  cases Nat.beq a b <;> rfl
theorem tab_itm {s : Nat} (hs : s < 8) {wy : Nat → Nat} : ∀ (w Ps : List Nat) (a : Acc), (∀ k ∈ w, k < 5) → Tab s wy Ps a.2.1 a.2.2 → Tab s wy (Ps ++ w) ((itm s wy Ps w).foldl readI a).2.1 ((itm s wy Ps w).foldl readI a).2.2
  | [], Ps, a, _, h => by rw [List.append_nil]; exact h
  | k :: w, Ps, (l, (ks, vs)), hw, h => by
    have hk := hw k (List.mem_cons_self ..)
    obtain ⟨c1, c2⟩ := cod_c hs hk
    have e : Ps ++ k :: w = (Ps ++ [k]) ++ w := by rw [List.append_assoc]; rfl
    rw [e]
    refine tab_itm hs w (Ps ++ [k]) _ (fun a ha => hw a (List.mem_cons_of_mem _ ha)) ?_
    have h : Tab s wy Ps ks vs := h
    have ct : ∀ j, j ≠ k → (Ps ++ [k]).count j = Ps.count j := fun j hj => by
      rw [List.count_append, List.count_singleton, if_neg (fun z => hj (eq_of_beq z).symm)]; rfl
    unfold readI
    cases q : inP Ps k with
    | false =>
      show Tab s wy (Ps ++ [k]) ks vs
      refine ⟨h.keys, fun j hj h2 => ?_, h.no⟩
      by_cases e : j = k
      · subst e
        have z : j ∉ Ps := of_decide_eq_false (inP_iff.symm.trans q)
        rw [List.count_append, List.count_eq_zero.mpr z, List.count_singleton_self] at h2
        exact absurd h2 (by decide)
      · exact h.two j hj (ct j e ▸ h2)
    | true =>
      show Tab s wy (Ps ++ [k]) (putV ks vs (.str ⟨#[sgnOf (cod (s + k))]⟩) (kindV (wy k))).1 (putV ks vs (.str ⟨#[sgnOf (cod (s + k))]⟩) (kindV (wy k))).2
      rw [c2]
      obtain ⟨K, rfl, hK⟩ := h.keys
      obtain ⟨K', e1, e2, e3⟩ := lk_put K vs ⟨#[cS s k]⟩ (kindV (wy k)) hK
      refine ⟨⟨K', e1, e2⟩, fun j hj h2 => ?_, fun a ha => ?_⟩
      · rw [e3, one_eq]
        by_cases e : j = k
        · subst e; rw [Nat.beq_refl]; rfl
        · cases q2 : Nat.beq (cS s j) (cS s k) with
          | true => exact absurd ((sgn_c hs).inj j hj k hk (Nat.eq_of_beq_eq_true q2)) e
          | false => exact h.two j hj (ct j e ▸ h2)
      · rw [e3, one_eq]
        cases q2 : Nat.beq a (cS s k) with
        | true => exact absurd (Nat.eq_of_beq_eq_true q2) (ha k hk)
        | false => exact h.no a ha
theorem tab_0 (s : Nat) (wy : Nat → Nat) : Tab s wy [] [] [] := ⟨⟨[], rfl, rfl⟩, fun k _ h => (Nat.not_succ_le_zero 1 h).elim, fun a _ => rfl⟩
theorem its_tab {s : Nat} (hs : s < 8) {wy : Nat → Nat} {w : List Nat} (hw : ∀ k ∈ w, k < 5) : Tab s wy w ((itsF s wy w).foldl readI ([], ([], []))).2.1 ((itsF s wy w).foldl readI ([], ([], []))).2.2 := by
  have := tab_itm hs w [] (readI ([], ([], [])) (7, none)) hw (tab_0 s wy)
  rw [List.nil_append] at this
  unfold itsF
  rw [List.foldl_cons, List.foldl_append]
  exact this
theorem kind_nV (y : Nat) : kindV y = nV (kW y) := by
  unfold kindV kW
  by_cases h0 : y = 0
  · subst h0; rfl
  · rw [if_neg h0, decide_eq_false (fun e => h0 (Int.ofNat.inj e) : ¬ ((y : Nat) : Int) = 0)]
    by_cases h1 : y < 256
    · rw [if_pos h1, decide_eq_true (by omega : ((y : Nat) : Int) < 256)]; rfl
    · rw [if_neg h1, decide_eq_false (by omega : ¬ ((y : Nat) : Int) < 256)]; rfl
theorem kW_lt (y : Nat) : kW y < 3 := by
  unfold kW
  split
  · decide
  · split <;> decide
end

section
open PySem
set_option backward.match.sparseCases false
set_option maxRecDepth 100000
set_option maxHeartbeats 4000000
set_option linter.unusedVariables false
theorem fsts (p : Nat → Bool) : ∀ (rest seen : List Nat), ((rest.zipIdx seen.length).filter fun b => p b.1 && !decide (b.1 ∈ (seen ++ rest).take b.2)).map (·.1) = (rest.filter fun a => p a && !decide (a ∈ seen)).eraseDups
  | [], _ => by
    rw [List.filter_nil, List.eraseDups_nil]; rfl
  | a :: r, seen => by
    have et : (seen ++ a :: r).take seen.length = seen := by
      rw [List.take_append_of_le_length (Nat.le_refl _), List.take_length]
    have ih := fsts p r (seen ++ [a])
    have el : (seen ++ [a]).length = seen.length + 1 := by rw [List.length_append]; rfl
    have ea : (seen ++ [a]) ++ r = seen ++ a :: r := by rw [List.append_assoc]; rfl
    rw [el, ea] at ih
    rw [List.zipIdx_cons]
    cases q : (p a && !decide (a ∈ seen)) with
    | true =>
      rw [List.filter_cons_of_pos (by show (p a && !decide (a ∈ (seen ++ a :: r).take seen.length)) = true; rw [et]; exact q), List.map_cons, ih, List.filter_cons_of_pos (by exact q), List.eraseDups_cons, List.filter_filter]
      refine congrArg (fun l => a :: List.eraseDups l) (List.filter_congr fun x _ => ?_)
      show (p x && !decide (x ∈ seen ++ [a])) = ((!x == a) && (p x && !decide (x ∈ seen)))
      rw [show decide (x ∈ seen ++ [a]) = (decide (x ∈ seen) || (x == a)) by
        rw [Bool.eq_iff_iff, decide_eq_true_iff, List.mem_append, List.mem_singleton, Bool.or_eq_true, decide_eq_true_iff, beq_iff_eq]]
      cases p x <;> cases decide (x ∈ seen) <;> cases (x == a) <;> rfl
    | false =>
      rw [List.filter_cons_of_neg (by show ¬ (p a && !decide (a ∈ (seen ++ a :: r).take seen.length)) = true; rw [et, q]; exact Bool.false_ne_true), ih, List.filter_cons_of_neg (by show ¬ (p a && !decide (a ∈ seen)) = true; rw [q]; exact Bool.false_ne_true)]
      refine congrArg List.eraseDups (List.filter_congr fun x _ => ?_)
      by_cases e : x = a
      · subst e
        rw [q, decide_eq_true (List.mem_append_right _ (List.mem_singleton.mpr rfl) : x ∈ seen ++ [x]), Bool.not_true, Bool.and_false]
      · have : decide (x ∈ seen ++ [a]) = decide (x ∈ seen) := decide_eq_decide.mpr ⟨fun h => (List.mem_append.mp h).elim id fun h => absurd (List.mem_singleton.mp h) e, List.mem_append_left _⟩
        rw [this]
theorem ed_step {c : Nat → Nat} (hc : ∀ i, i < 5 → ∀ j, j < 5 → c i = c j → i = j) {w : List Nat} {k : Nat} (hk : k < 5) (h : TripTo w k) (D : Nat → Nat) : ((stepTr D w k).map c).eraseDups = c k :: (w.map c).eraseDups := by
  have ne : ∀ x ∈ w, c x ≠ c k := fun x hx e => by
    have := h.lt x hx
    rw [hc x (Nat.lt_trans this hk) k hk e] at this
    exact Nat.lt_irrefl _ this
  unfold stepTr
  rw [List.map_cons, List.eraseDups_cons, List.map_append, List.filter_append, List.map_cons, List.filter_cons_of_neg (by show ¬ (!(c k == c k)) = true; rw [beq_self_eq_true]; exact Bool.false_ne_true), ← List.filter_append, ← List.map_append, List.take_append_drop]
  congr 2
  refine List.filter_eq_self.mpr fun y hy => ?_
  obtain ⟨x, hx, rfl⟩ := List.mem_map.mp hy
  show (!(c x == c k)) = true
  rw [beq_eq_false_iff_ne.mpr (ne x hx)]; rfl
theorem ed_trip {c : Nat → Nat} (hc : ∀ i, i < 5 → ∀ j, j < 5 → c i = c j → i = j) (D : Nat → Nat) : ((tripW D).map c).eraseDups = [c 4, c 3, c 2, c 1, c 0] := by
  have h0 : TripTo [] 0 := ⟨rfl, fun x hx => (by cases hx), fun k hk => absurd hk (by omega)⟩
  have h1 := h0.step D
  have h2 := h1.step D
  have h3 := h2.step D
  have h4 := h3.step D
  show ((stepTr D (stepTr D (stepTr D (stepTr D (stepTr D [] 0) 1) 2) 3) 4).map c).eraseDups = _
  rw [ed_step hc (by decide) h4 D, ed_step hc (by decide) h3 D, ed_step hc (by decide) h2 D, ed_step hc (by decide) h1 D, ed_step hc (by decide) h0 D]
  rfl
theorem occ_two {w : List Nat} {k p q : Nat} (hw : w.length = 10) (o : Occ w k p q) : w.count k = 2 := by
  have := count_slice o 0 10 (by rw [hw]; exact Nat.le_refl _)
  rw [List.drop_zero, List.take_of_length_le (Nat.le_of_eq hw)] at this
  have h2 : q < 10 := hw ▸ o.len
  rw [this, if_pos ⟨Nat.zero_le _, by rw [Nat.zero_add]; exact Nat.lt_trans o.lt h2⟩, if_pos ⟨Nat.zero_le _, by rw [Nat.zero_add]; exact h2⟩]
theorem kok {s : Nat} (hs : s < 8) (wy D : Nat → Nat) : KOk (cS s) (fun k => kW (wy k)) (tripW D) ((itsF s wy (tripW D)).foldl readI ([], ([], []))).2.1 ((itsF s wy (tripW D)).foldl readI ([], ([], []))).2.2 := by
  have h := tripW_good D
  have ht := its_tab hs (wy := wy) h.lt
  have hc := sgn_c hs
  generalize ((itsF s wy (tripW D)).foldl readI ([], ([], []))).2.1 = ks at ht
  generalize ((itsF s wy (tripW D)).foldl readI ([], ([], []))).2.2 = vs at ht
  have hin : ∀ k, k < 5 → lkV ks vs (.str ⟨#[cS s k]⟩) = some (nV (kW (wy k))) := fun k hk => by
    obtain ⟨p, q, o⟩ := h.occ k hk
    rw [ht.two k hk (by rw [occ_two h.len o]; exact Nat.le_refl _), kind_nV]
  refine ⟨hin, fun k _ => kW_lt _, wnt_c hs, ?_⟩
  have h40 : (lkV ks vs (.str ⟨#[40]⟩)).isSome = false := by rw [ht.no 40 fun k hk e => hc.n40 k hk e.symm]; rfl
  have h41 : (lkV ks vs (.str ⟨#[41]⟩)).isSome = false := by rw [ht.no 41 fun k hk e => hc.n41 k hk e.symm]; rfl
  refine (fsts (fun a => (lkV ks vs (.str ⟨#[a]⟩)).isSome) (twL (cS s) (tripW D)) []).trans ?_
  have e : (twL (cS s) (tripW D)).filter (fun a => (lkV ks vs (.str ⟨#[a]⟩)).isSome && !decide (a ∈ ([] : List Nat))) = (tripW D).map (cS s) := by
    unfold twL
    rw [List.filter_cons_of_neg (by rw [h40]; exact Bool.false_ne_true), List.filter_append, List.filter_cons_of_neg (by rw [h41]; exact Bool.false_ne_true), List.filter_nil, List.append_nil]
    refine List.filter_eq_self.mpr fun y hy => ?_
    obtain ⟨x, hx, rfl⟩ := List.mem_map.mp hy
    rw [hin x (h.lt x hx), decide_eq_false (List.not_mem_nil : cS s x ∉ ([] : List Nat))]; rfl
  rw [e]
  exact ed_trip hc.inj D
theorem trip_places (D : Nat → Nat) : ∃ P Q : Nat → Nat, Trp (tripW D) P Q ∧ ∀ a b, a < b → b < 5 → P b < P a := by
  have h := tripW_good D
  obtain ⟨p0, q0, o0⟩ := h.occ 0 (by decide)
  obtain ⟨p1, q1, o1⟩ := h.occ 1 (by decide)
  obtain ⟨p2, q2, o2⟩ := h.occ 2 (by decide)
  obtain ⟨p3, q3, o3⟩ := h.occ 3 (by decide)
  obtain ⟨p4, q4, o4⟩ := h.occ 4 (by decide)
  have T : ∀ k, k < 5 → Occ (tripW D) k ([p0, p1, p2, p3, p4].getD k 0) ([q0, q1, q2, q3, q4].getD k 0) := fun k hk => match k, hk with
    | 0, _ => o0
    | 1, _ => o1
    | 2, _ => o2
    | 3, _ => o3
    | 4, _ => o4
  exact ⟨fun k => [p0, p1, p2, p3, p4].getD k 0, fun k => [q0, q1, q2, q3, q4].getD k 0, ⟨h.len, h.lt, T⟩, fun a b hab hb => tripW_fst D a b _ _ _ _ hab hb (T a (Nat.lt_trans hab hb)) (T b hb)⟩
theorem wayN_lt {D : Nat → Nat} (hD : ∀ k, k < 5 → D k ≤ 63000014) : ∀ k, k < 5 → wayN D k < 1073741824 := fun k hk => by
  have h1 : restN D k ≤ 63000014 := Nat.le_trans (Nat.div_le_self _ _) (hD k hk)
  have h2 : restN D k / 3 ≤ 63000014 := Nat.le_trans (Nat.div_le_self _ _) h1
  have h3 : kapN D k < 3 := Nat.mod_lt _ (by decide)
  unfold wayN
  generalize kapN D k = x at h3
  match x, h3 with
  | 0, _ => exact (by decide : 0 < 1073741824)
  | 1, _ => exact Nat.lt_of_le_of_lt (Nat.sub_le _ _) (by decide : 255 < 1073741824)
  | 2, _ =>
    show 256 + restN D k / 3 < 1073741824
    omega
theorem both {s : Nat} (hs : s < 8) (wy D P Q : Nat → Nat) (T : Trp (tripW D) P Q) (ho : ∀ a b, a < b → b < 5 → P b < P a) : ∃ l0 ls, sortI (((ringF (fun k => kW (wy k)) P Q).map fun (d : Nat) => (d : Int)).foldl addI []) = l0 :: ls ∧ ls.length ≤ 9 ∧
    (ls.foldl (addM P (labR (ringF (fun k => kW (wy k)) P Q))) [0]).length < 64 ∧
    sortI ((ls.foldl (addM P (labR (ringF (fun k => kW (wy k)) P Q))) [0]).map fun (d : Nat) => (d : Int)) =
      ((List.range 32).filter fun m => decide (evS [rowN (fun k => kW (wy k)) (rowsX (TW (cS s) (tripW D)) (cS s)) 0, rowN (fun k => kW (wy k)) (rowsX (TW (cS s) (tripW D)) (cS s)) 1, rowN (fun k => kW (wy k)) (rowsX (TW (cS s) (tripW D)) (cS s)) 2,
        rowN (fun k => kW (wy k)) (rowsX (TW (cS s) (tripW D)) (cS s)) 3, rowN (fun k => kW (wy k)) (rowsX (TW (cS s) (tripW D)) (cS s)) 4] m = 0)).map fun (d : Nat) => (d : Int) := by
  have G := ringF_ok (κ := fun k => kW (wy k)) T
  obtain ⟨l0, ls, h1, h2, h3, h4⟩ := labels G.len
  obtain ⟨n1, n2⟩ := sets_even T G h3 h4
  have n3 := masks_sorted n1 (p := fun m => evS [rowN (fun k => kW (wy k)) (rowsX (TW (cS s) (tripW D)) (cS s)) 0, rowN (fun k => kW (wy k)) (rowsX (TW (cS s) (tripW D)) (cS s)) 1, rowN (fun k => kW (wy k)) (rowsX (TW (cS s) (tripW D)) (cS s)) 2,
        rowN (fun k => kW (wy k)) (rowsX (TW (cS s) (tripW D)) (cS s)) 3, rowN (fun k => kW (wy k)) (rowsX (TW (cS s) (tripW D)) (cS s)) 4] m = 0) fun m => by
    rw [n2]
    exact ⟨fun z => ⟨z.1, (ev_iff (sgn_c hs) (tripW_good D) T ho (fun k _ => kW_lt _) z.1).mpr z.2⟩, fun z => ⟨z.1, (ev_iff (sgn_c hs) (tripW_good D) T ho (fun k _ => kW_lt _) z.1).mp z.2⟩⟩
  exact ⟨l0, ls, h1, h2, n3.1, n3.2⟩
end

section
open PySem
set_option backward.match.sparseCases false
set_option maxRecDepth 100000
set_option maxHeartbeats 4000000
noncomputable def okStr : Out V → Option Str
  | .ok (.str x) ⟨[], []⟩ => some x
  | _ => none
theorem okStr_eq {o : Out V} {x : Str} (h : okStr o = some x) : o = .ok (.str x) ⟨[], []⟩ := by
  rcases o with ⟨v, ρ, m⟩ | _ | _
  · rcases v with ⟨⟩ <;> first | exact nos h | skip
    rcases ρ with _ | _
    · rcases m with _ | _
      · exact congrArg (fun x => Out.ok (V.str x) ⟨[], []⟩) (Option.some.inj h)
      · exact nos h
    · exact nos h
  all_goals exact nos h
noncomputable def pnOk (s m : Nat) : Bool := match okStr ((run g2 97).call [] n_pretty_flags [.val (.int ((2 ^ s * m : Nat) : Int))]), okStr ((run g2 95).call [] n_law_named [.val (.int (m : Int)), .val (.int (s : Int))]) with
  | some x, some y => nEq x y && shorts [x]
  | _, _ => false
noncomputable def allB (f : Nat → Bool) : Nat → Bool
  | 0 => true
  | n + 1 => f n && allB f n
theorem allB_at {f : Nat → Bool} : ∀ {n}, allB f n = true → ∀ m, m < n → f m = true
  | n + 1, h, m, hm => by
    have h := Bool.and_eq_true_iff.mp h
    by_cases e : m = n
    · rw [e]; exact h.1
    · exact allB_at h.2 m (by omega)
theorem pn0 : allB (pnOk 0) 32 = true := by decide +kernel
theorem pn1 : allB (pnOk 1) 32 = true := by decide +kernel
theorem pn2 : allB (pnOk 2) 32 = true := by decide +kernel
theorem pn3 : allB (pnOk 3) 32 = true := by decide +kernel
theorem pn4 : allB (pnOk 4) 32 = true := by decide +kernel
theorem pn5 : allB (pnOk 5) 32 = true := by decide +kernel
theorem pn6 : allB (pnOk 6) 32 = true := by decide +kernel
theorem pn7 : allB (pnOk 7) 32 = true := by decide +kernel
theorem pn : ∀ s, s < 8 → ∀ m, m < 32 → pnOk s m = true
  | 0, _ => allB_at pn0
  | 1, _ => allB_at pn1
  | 2, _ => allB_at pn2
  | 3, _ => allB_at pn3
  | 4, _ => allB_at pn4
  | 5, _ => allB_at pn5
  | 6, _ => allB_at pn6
  | 7, _ => allB_at pn7
  | _ + 8, h => absurd h (by omega)
noncomputable def nmS (s m : Nat) : Str := (okStr ((run g2 97).call [] n_pretty_flags [.val (.int ((2 ^ s * m : Nat) : Int))])).getD default
theorem pn_all {s m : Nat} (hs : s < 8) (hm : m < 32) : (run g2 97).call [] n_pretty_flags [.val (.int ((2 ^ s * m : Nat) : Int))] = .ok (.str (nmS s m)) ⟨[], []⟩ ∧
    (run g2 95).call [] n_law_named [.val (.int (m : Int)), .val (.int (s : Int))] = .ok (.str (nmS s m)) ⟨[], []⟩ ∧ shorts [nmS s m] = true := by
  have h := pn s hs m hm
  unfold pnOk at h
  unfold nmS
  rcases hx : okStr ((run g2 97).call [] n_pretty_flags [.val (.int ((2 ^ s * m : Nat) : Int))]) with _ | x <;> rw [hx] at h
  · exact ff_tt h
  rcases hy : okStr ((run g2 95).call [] n_law_named [.val (.int (m : Int)), .val (.int (s : Int))]) with _ | y <;> rw [hy] at h
  · exact ff_tt h
  obtain ⟨h1, h2⟩ := Bool.and_eq_true_iff.mp h
  have := nEq_iff.mp h1
  subst this
  exact ⟨okStr_eq hx, okStr_eq hy, h2⟩
end

section
open PySem
set_option backward.match.sparseCases false
set_option maxRecDepth 100000
set_option maxHeartbeats 4000000
set_option linter.unusedVariables false
theorem strsOf_map : ∀ p : List Str, strsOf (p.map V.str) = some p
  | [] => rfl
  | a :: p => by
    show (strsOf (p.map V.str)).map _ = _
    rw [strsOf_map p]; rfl
theorem cmp_same {p : List Str} (hs : shorts p = true) : cmp .Eq (.list (p.map V.str)) (.list (p.map V.str)) = some true := by
  show strs2 (p.map V.str) (p.map V.str) (fun p q => decide (p = q)) = _
  unfold strs2
  rw [strsOf_map]
  show cond (shorts p && shorts p) (some (decide (p = p))) none = _
  rw [hs, decide_eq_true rfl]; rfl
theorem shorts_all : ∀ {p : List Str}, (∀ x ∈ p, shorts [x] = true) → shorts p = true
  | [], _ => rfl
  | x :: p, h => by
    have h1 := h x (List.mem_cons_self ..)
    have h2 := shorts_all fun y hy => h y (List.mem_cons_of_mem _ hy)
    simp only [shorts, Bool.and_true] at h1 h2 ⊢
    rw [h1, h2]; rfl
noncomputable def n_mask10 : Str := ⟨#[109, 97, 115, 107]⟩
theorem law_run (xs : List Int) (hx : xs.length ≤ 63) : (run g2 100).call [] n_law [.val (.list (xs.map V.int))] = .ok (.bool true) ⟨[], []⟩ := by
  have hD : ∀ k, k < 5 → drawN xs k ≤ 63000014 := fun k hk => drawN_le hx hk
  have hdr : (run g2 97).call [] n_law_drawn [.val (.list (xs.map V.int))] = .ok (.list (drV (drawN xs))) ⟨[], []⟩ := drawn_run 67 xs hx
  generalize drawN xs = D at hD hdr
  have hw := tripW_good D
  have htr := trip_run 67 D
  have hwa := ways_run 67 D
  have hs : [D 0, D 1, D 2, D 3, D 4].sum % 8 < 8 := Nat.mod_lt _ (by decide)
  generalize hsd : [D 0, D 1, D 2, D 3, D 4].sum % 8 = s at hs
  have hy := wayN_lt hD
  obtain ⟨P, Q, T, ho⟩ := trip_places D
  obtain ⟨l0, ls, b1, b2, b3, b4⟩ := both hs (wayN D) D P Q T ho
  have htape := tape_run 46 (tripW D) (wayN D) s hw hy hs
  rw [tape_itm] at htape
  have hread := read_run 47 (itsF s (wayN D) (tripW D)) (fit_its hs hy hw.lt) (by
    unfold itsF
    rw [List.length_cons, List.length_append, itm_len, hw.len]; decide)
  rw [its_text hs (wayN D) hw.lt] at hread
  have hrows := rows_run 26 (cS s) (fun k => kW (wayN D k)) (tripW D) _ _ hw (kok hs (wayN D) D)
  have heven := even_run 37 (rowN (fun k => kW (wayN D k)) (rowsX (TW (cS s) (tripW D)) (cS s)) 0) (rowN (fun k => kW (wayN D k)) (rowsX (TW (cS s) (tripW D)) (cS s)) 1) (rowN (fun k => kW (wayN D k)) (rowsX (TW (cS s) (tripW D)) (cS s)) 2)
    (rowN (fun k => kW (wayN D k)) (rowsX (TW (cS s) (tripW D)) (cS s)) 3) (rowN (fun k => kW (wayN D k)) (rowsX (TW (cS s) (tripW D)) (cS s)) 4)
  have hrings := rings_run 24 (tripW D) (wayN D) P Q hw.len T.occ
  have hsets := sets_run 25 (tripW D) (ringF (fun k => kW (wayN D k)) P Q) P Q T (ringF_ok T).len l0 ls b1 b2 b3
  rw [b4] at hsets
  generalize hev : ((List.range 32).filter fun m => decide (evS [rowN (fun k => kW (wayN D k)) (rowsX (TW (cS s) (tripW D)) (cS s)) 0, rowN (fun k => kW (wayN D k)) (rowsX (TW (cS s) (tripW D)) (cS s)) 1, rowN (fun k => kW (wayN D k)) (rowsX (TW (cS s) (tripW D)) (cS s)) 2,
        rowN (fun k => kW (wayN D k)) (rowsX (TW (cS s) (tripW D)) (cS s)) 3, rowN (fun k => kW (wayN D k)) (rowsX (TW (cS s) (tripW D)) (cS s)) 4] m = 0)) = E at heven hsets
  have hE : ∀ m ∈ E, m < 32 := fun m hm => by
    rw [← hev] at hm
    exact List.mem_range.mp (List.mem_filter.mp hm).1
  have hEl : E.length ≤ 32 := by
    rw [← hev]
    exact Nat.le_trans (List.length_filter_le _ _) (by decide)
  clear hev
  have hEm : (E.map fun m => V.str (nmS s m)).length ≤ 32 := by rw [List.length_map]; exact hEl
  apply ok_eq
  (apply call_r; rfl; rfl; wtm_at "w"; wtm_at "w")
  apply sts_cons
  · apply st_set; rfl; (apply ex_fn; rfl; rfl; wtm_at "x"; rfl; exact hdr); wtm_at "w"
  apply sts_cons
  · apply st_set; rfl; (apply ex_fn; rfl; rfl; wtm_at "x"; rfl; exact htr); wtm_at "w"
  apply sts_cons
  · apply st_set; rfl; (apply ex_fn; rfl; rfl; wtm_at "x"; rfl; exact hwa); wtm_at "w"
  apply sts_cons
  · apply st_set; rfl
    · apply okv_eq (u := nV ([D 0, D 1, D 2, D 3, D 4].sum % 8))
      · apply ex_bin
        · apply ex_bf; rfl; rfl; rfl; wtm_at "x"; exact bf_sumn [D 0, D 1, D 2, D 3, D 4]
        · wtm_at "x"
        · wtm_at "o"
      · exact congrArg nV hsd
    · wtm_at "w"
  apply sts_cons
  · apply st_unpack; rfl
    · apply ex_fn; rfl; rfl
      · apply as_cons; rfl
        · apply ex_fn; rfl; rfl; wtm_at "x"; rfl; exact htape
        · apply as_nil
      · rfl
      · exact hread
    · wtm_at "w"
  have hs1 : s ≤ 1000 := by omega
  apply sts_cons
  · apply st_setC
    · apply comp_e (m₂ := [some (.cell (some (.val (nV s))))]) (ys := E.map fun m => V.str (nmS s m)); rfl; rfl
      · apply src_c; rfl; (intro h; cases h)
        · apply ex_fn; rfl; rfl
          · apply as_cons; rfl
            · apply ex_fn; rfl; rfl; wtm_at "x"; rfl; exact hrows
            · apply as_nil
          · rfl
          · exact heven
        · rfl
      · wtm_at "w"
      · wtm_at "w"
      · refine turns_foldM nV (fun m => V.str (nmS s m)) (fun m => m < 32) (fun σ => ∃ r, σ = ⟨r, [some (.cell (some (.val (nV s))))]⟩ ∧ (r = [] ∨ ∃ x, r = [(n_mask10, x)])) ?_ ?_ E hE ⟨[], rfl, .inl rfl⟩
        · rintro σ ⟨r, rfl, -⟩; rfl
        · rintro m σ ⟨r, rfl, hr⟩ hm
          have hpf := (pn_all hs hm).1
          rw [Nat.mul_comm] at hpf
          have hmm : (Nat.ble m 9223372036854775807 || Nat.ble (2 ^ s) 9223372036854775807) = true := by
            rw [Nat.ble_eq_true_of_le (by omega : m ≤ 9223372036854775807)]; rfl
          rcases hr with rfl | ⟨x, rfl⟩
          all_goals
            apply Exists.intro; apply And.intro; wtm_at "w"
            apply Exists.intro; apply And.intro
            · apply ex_fn; rfl; rfl
              · apply as_cons; rfl
                · apply ex_bin; wtm_at "x"; (apply ex_bin; wtm_at "x"; wtm_at "x"; (apply bo_pow2; rfl; rfl; exact hs1)); (apply bo_muln; rfl; rfl; exact hmm)
                · apply as_nil
              · rfl
              · exact hpf
            · exact ⟨_, rfl, .inr ⟨_, rfl⟩⟩
      · wtm_at "g"
      · wtm_at "w"
      · rfl
    · wtm_at "w"
  apply sts_ret; apply st_ret; apply ex_cmp; apply cmp_v; rfl; wtm_at "x"; rfl
  · apply ex_lcomp; apply comp_e (m₂ := [some (.cell (some (.val (nV s))))]) (ys := E.map fun m => V.str (nmS s m)); rfl; rfl
    · apply src_e; rfl; (intro _ _ _ _ h; cases h; decide)
      · apply ex_fn; rfl; rfl
        · apply as_cons; rfl
          · wtm_at "x"
          · apply as_cons; rfl
            · apply ex_fn; rfl; rfl; wtm_at "x"; rfl; exact hrings
            · apply as_nil
        · rfl
        · exact hsets
      · rfl
    · wtm_at "w"
    · wtm_at "w"
    · have e1 : (E.map fun (d : Nat) => (d : Int)).map V.int = E.map nV := by rw [List.map_map]; rfl
      rw [e1]
      refine turns_foldM nV (fun m => V.str (nmS s m)) (fun m => m < 32) (fun σ => ∃ r, σ = ⟨r, [some (.cell (some (.val (nV s))))]⟩ ∧ (r = [] ∨ ∃ x, r = [(n_mask10, x)])) ?_ ?_ E hE ⟨[], rfl, .inl rfl⟩
      · rintro σ ⟨r, rfl, -⟩; rfl
      · rintro m σ ⟨r, rfl, hr⟩ hm
        rcases hr with rfl | ⟨x, rfl⟩
        all_goals
          apply Exists.intro; apply And.intro; wtm_at "w"
          apply Exists.intro; apply And.intro
          · apply ex_fn; rfl; rfl; wtm_at "x"; rfl; exact (pn_all hs hm).2.1
          · exact ⟨_, rfl, .inr ⟨_, rfl⟩⟩
    · wtm_at "g"
    · wtm_at "w"
    · rfl
  · have e2 : (E.map fun m => V.str (nmS s m)) = (E.map (nmS s)).map V.str := by rw [List.map_map]; rfl
    rw [e2]
    refine cmp_same (shorts_all fun x hx => ?_)
    obtain ⟨m, hm, rfl⟩ := List.mem_map.mp hx
    exact (pn_all hs (hE m hm)).2.2
  rfl
end

end Mine
section
open PySem PySem.W PyProof.Rows
set_option backward.match.sparseCases false
set_option maxRecDepth 100000
set_option maxHeartbeats 8000000
namespace Mine
theorem ns_fact {K : Frag} {mg : Str → Option Value} {h : Heap} {o : Obj} {es : Array DictEntry} {ep : Nat} (T : h.Ns mainGlobals mg) (X : K.In h) (hl : K.lookup mainGlobals = some o) (hd : o.data = .dict es ep) (x : Str) : mg x = nsFind es x := ns_at T (X _ _ hl) hd x
theorem a3 {prog : Program} {w : World} {mg : Str → Option Value} {h : Heap} (T : h.Ns mainGlobals mg) (K : (fr2 w.params).In h) : ∀ x ∈ cs2, ∃ v y, lkN (topV body2 []) x = some v ∧ RV (wd0 prog w mg) h v y ∧ mg x = some y := by
  have e := ns_fact T K rfl rfl
  intro x hx
  simp only [cs2, List.mem_cons, List.not_mem_nil, or_false] at hx
  rcases hx with rfl | rfl | rfl | rfl | rfl
  · exact ⟨.int 0, _, by rfl, .int, (e _).trans (by rfl)⟩
  · exact ⟨.int 256, _, by rfl, .int, (e _).trans (by rfl)⟩
  · refine ⟨.dict true _ _, .ref 37, ?_, rv_dictS K (a := 37) (by rfl) ?_ (by decide) ?_ ?_, (e _).trans (by rfl)⟩
    · rfl
    · repeat' (first | exact trivial | refine ⟨⟨_, _, rfl, rfl⟩, ?_⟩)
    · rfl
    · rfl
  · refine ⟨.dict false _ _, .ref 15, ?_, rv_dictI K (a := 15) (by rfl) ?_ (by decide) ?_ ?_, (e _).trans (by rfl)⟩
    · rfl
    · rfl
    · rfl
    · rfl
  · exact ⟨.str "...", _, by rfl, .str, (e _).trans (by rfl)⟩
theorem a4 {mg : Str → Option Value} {h : Heap} {w : World} (T : h.Ns mainGlobals mg) (K : (fr2 w.params).In h) : ∀ p ∈ bs2, mg p.1 = none ∧ bootBuiltins p.1 = some (bfVal p.2) ∧ p.1 ≠ "__name__" := by
  have e := ns_fact T K rfl rfl
  intro x hx
  simp only [bs2, List.mem_cons, List.not_mem_nil, or_false] at hx
  rcases hx with rfl | rfl | rfl | rfl | rfl | rfl | rfl | rfl | rfl | rfl | rfl
  all_goals exact ⟨(e _).trans (by rfl), by rfl, by decide +kernel⟩
end Mine
end

section
open PySem PySem.W PyProof.Rows
set_option backward.match.sparseCases false
set_option maxRecDepth 100000
set_option maxHeartbeats 8000000
namespace Mine
theorem n_law_eq : n_law = Str.ofString "law" := by decide +kernel
end Mine
open Mine
theorem PySem.Challenge.cw_sc0058_01_holds : PySem.Challenge.rw_sc0058_01.Holds := by
  rw [rq2_eq]
  refine holds_law said2 fun said => ?_
  refine holds_open (q := vw2) (loose := lo2) (Xt := xt2) (XP := XL vw2 []) (Yf := Hook.obs hk2) (Ya := Hook.val hk2) (YP := Hook.says hk2) (N := 4570)
    hl2 (Hook.of hk2) (Hook.keeps hk2) (fun s e => xl_of s (Bool.and_eq_true_iff.mp e).1) XL.keeps (by rfl) (by rfl) (by rfl) (fun s e => recFacts_of (Bool.and_eq_true_iff.mp e).2) (by rfl) said (by decide +kernel) ⟨rfl, rfl, rfl, rfl, rfl, by decide +kernel⟩ ?hw ?hc
  case hw => exact ⟨[.list []], by decide +kernel, by decide +kernel⟩
  w_on
  w_strict (
    intro w s₀ s₁ mg mb G Y fa o pm cd doc dV kV ho hd hcd hD hmg hg args vals as hpre hlay hrd hwl hlo
    have KX := kIn_of Y
    have X := (Ground.X G).1
    have V := (Ground.X G).2
    refine Ground.open G ?_
    intro T B D TE TW
    have hmg' := hmg
    clear hmg
    wrow_args hpre hlay hrd hwl hlo
    all_goals (
      first | refine callC_kw (enter_call ?_) | refine enter_call ?_ | refine callC_kw (enter_callW ?_) | refine enter_callW ?_ | w_how
      w_top on
      try refine codeAny_mono ?_ (fun _ _ g => GoodW.toG g))
    rename_i xs _ _ _ _ _ _ _ _ _ _ _ _ w1 _ _ _ hlen _
    have hr := law_run xs (by omega)
    rw [n_law_eq] at hr
    refine law_ends (g2_eq ▸ base_ok T (by rfl) (by rfl) (a3 T.g KX) (a4 T.g KX)) hmg' (by decide) w1 hg hr ?_ ?_
    · intro cls; rfl
    · clear hd hcd hD X V T B TE TW G Y KX ho hr; wrow_post)
end
