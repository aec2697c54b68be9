import PyProof.Rows.All
import Wide.All
import OpenK.AllK
import Wide.FinOn
import PySem.Builtin.Re_Pattern.W2All
import PyProof.Rows.StrCut
import KE.KSuper
import Lean
import PySem.Challenge.RW_bl0007_01
set_option Elab.async false
set_option linter.all false
/-! part TopX -/
section
open PySem PySem.W PyProof.Rows
set_option Elab.async false
set_option maxRecDepth 100000
set_option maxHeartbeats 8000000
namespace Mine
local macro_rules | `(tactic| k_head) => `(tactic| x_head)
open_top hd for PySem.Challenge.rw_bl0007_01
end Mine
end
/-! part Base -/
section
theorem Mine.startBase : True := by
  w_top off
  exact trivial
open PySem PySem.W PyProof.Rows PySem.Calls PySem.Spec
set_option Elab.async false
set_option maxRecDepth 100000
namespace Mine
noncomputable abbrev prg : Program := PySem.Challenge.rw_bl0007_01.row.prog
set_option maxHeartbeats 4000000 in
/-- the top's objects, but the two code tables that a generator expression fills -/
noncomputable def K0 : Params → Frag := by
  intro P
  refine' (?F : ∀ x0 x1 x2 x3 x4 x5 x6 x7 x8 x9 x10 x11 x12 x13 x14 x15 x16 x17 x18 x19 
    x20 x21 x22 x23 x24 x25 x26 x27 x28 x29 x30 x31 x32 x33 x34 x35 x36 x37 x38 x39 
    x40 x41 x42 x43 x44 x45 x46 x47 x48 x49 x50 x51 x52 x53 x54 x55 x56 x57 x58 x59 
    x60 x61 x62 x63 x64 x65 x66 x67 x68 x69 x70 x71 x72 x73 x74 x75 x76 x77 x78 x79 
    x80 x81 x82 x83 x84 x85 x86 x87 x88 x89 x90 x91 x92 x93 x94 x95 x96 x97 x98 x99 
    x100 x101 x102 x103 x104 x105 x106 x107 x108 x109 x110 x111 x112 x113 x114 x115 x116 x117 x118 x119 
    x120 x121 x122 x123 x124 x125 x126 x127 x128 x129 x130 x131 x132 x133 x134 x135 x136 x137 x138 x139 
    x140 x141 x142 x143 x144 x145 x146 x147 x148 x149 x150 x151 x152 x153 x154 x155 x156 x157 x158 x159 
    x160 x161 x162 x163 x164 x165 x166 x167 x168 x169 x170 x171 x172 x173 x174 x175 x176 x177 x178 x179 
    x180 x181 x182 x183 x184 x185 x186 x187 x188 x189 x190 x191 x192 x193 x194 x195 x196 x197 x198 x199 
    x200 x201 x202 x203 x204 x205 x206 x207 x208 x209 x210 x211 x212 x213 x214 x215 x216 x217 x218 x219 
    x220 x221 x222 x223 x224 x225 x226 x227 x228 x229 x230 x231 x232 x233 x234 x235 x236 x237 x238 x239 
    x240 x241 x242 x243 x244 x245 x246 x247 x248 x249 x250 x251 x252 x253 x254 x255 x256 x257 x258 x259 
    x260 x261 x262 x263 x264 x265 x266 x267 x268 x269 x270 x271 x272 x273 x274 x275 x276 x277 x278 x279 
    x280 x281 x282 x283 x284 x285 x286 x287 x288 x289 x290 x291 x292 x293 x294 x295 x296 x297 x298 x299 
    x300 x301 x302 x303 x304 x305 x306 x307 x308 x309 x310 x311 x312 x313 x314 x315 x316 x317 x318 x319 
    x320 x321 x322 x323 x324 x325 x326 x327 x328 x329 x330 x331 x332 x333 x334 x335 x336 x337 x338 x339 
    x340 x341 x342 x343 x344 x345 x346 x347 x348 x349 x350 x351 x352 x353 x354 x355 x356 x357 x358 x359 
    x360 x361 x362 x363 x364 x365 x366 x367 x368 x369 x370 : Addr × Obj,
    hd.heap_39 P = (x0 :: x1 :: x2 :: x3 :: x4 :: x5 :: x6 :: x7 :: x8 :: x9 :: x10 :: x11 :: x12 :: x13 :: x14 :: x15 :: x16 :: x17 :: x18 :: x19 :: 
    x20 :: x21 :: x22 :: x23 :: x24 :: x25 :: x26 :: x27 :: x28 :: x29 :: x30 :: x31 :: x32 :: x33 :: x34 :: x35 :: x36 :: x37 :: x38 :: x39 :: 
    x40 :: x41 :: x42 :: x43 :: x44 :: x45 :: x46 :: x47 :: x48 :: x49 :: x50 :: x51 :: x52 :: x53 :: x54 :: x55 :: x56 :: x57 :: x58 :: x59 :: 
    x60 :: x61 :: x62 :: x63 :: x64 :: x65 :: x66 :: x67 :: x68 :: x69 :: x70 :: x71 :: x72 :: x73 :: x74 :: x75 :: x76 :: x77 :: x78 :: x79 :: 
    x80 :: x81 :: x82 :: x83 :: x84 :: x85 :: x86 :: x87 :: x88 :: x89 :: x90 :: x91 :: x92 :: x93 :: x94 :: x95 :: x96 :: x97 :: x98 :: x99 :: 
    x100 :: x101 :: x102 :: x103 :: x104 :: x105 :: x106 :: x107 :: x108 :: x109 :: x110 :: x111 :: x112 :: x113 :: x114 :: x115 :: x116 :: x117 :: x118 :: x119 :: 
    x120 :: x121 :: x122 :: x123 :: x124 :: x125 :: x126 :: x127 :: x128 :: x129 :: x130 :: x131 :: x132 :: x133 :: x134 :: x135 :: x136 :: x137 :: x138 :: x139 :: 
    x140 :: x141 :: x142 :: x143 :: x144 :: x145 :: x146 :: x147 :: x148 :: x149 :: x150 :: x151 :: x152 :: x153 :: x154 :: x155 :: x156 :: x157 :: x158 :: x159 :: 
    x160 :: x161 :: x162 :: x163 :: x164 :: x165 :: x166 :: x167 :: x168 :: x169 :: x170 :: x171 :: x172 :: x173 :: x174 :: x175 :: x176 :: x177 :: x178 :: x179 :: 
    x180 :: x181 :: x182 :: x183 :: x184 :: x185 :: x186 :: x187 :: x188 :: x189 :: x190 :: x191 :: x192 :: x193 :: x194 :: x195 :: x196 :: x197 :: x198 :: x199 :: 
    x200 :: x201 :: x202 :: x203 :: x204 :: x205 :: x206 :: x207 :: x208 :: x209 :: x210 :: x211 :: x212 :: x213 :: x214 :: x215 :: x216 :: x217 :: x218 :: x219 :: 
    x220 :: x221 :: x222 :: x223 :: x224 :: x225 :: x226 :: x227 :: x228 :: x229 :: x230 :: x231 :: x232 :: x233 :: x234 :: x235 :: x236 :: x237 :: x238 :: x239 :: 
    x240 :: x241 :: x242 :: x243 :: x244 :: x245 :: x246 :: x247 :: x248 :: x249 :: x250 :: x251 :: x252 :: x253 :: x254 :: x255 :: x256 :: x257 :: x258 :: x259 :: 
    x260 :: x261 :: x262 :: x263 :: x264 :: x265 :: x266 :: x267 :: x268 :: x269 :: x270 :: x271 :: x272 :: x273 :: x274 :: x275 :: x276 :: x277 :: x278 :: x279 :: 
    x280 :: x281 :: x282 :: x283 :: x284 :: x285 :: x286 :: x287 :: x288 :: x289 :: x290 :: x291 :: x292 :: x293 :: x294 :: x295 :: x296 :: x297 :: x298 :: x299 :: 
    x300 :: x301 :: x302 :: x303 :: x304 :: x305 :: x306 :: x307 :: x308 :: x309 :: x310 :: x311 :: x312 :: x313 :: x314 :: x315 :: x316 :: x317 :: x318 :: x319 :: 
    x320 :: x321 :: x322 :: x323 :: x324 :: x325 :: x326 :: x327 :: x328 :: x329 :: x330 :: x331 :: x332 :: x333 :: x334 :: x335 :: x336 :: x337 :: x338 :: x339 :: 
    x340 :: x341 :: x342 :: x343 :: x344 :: x345 :: x346 :: x347 :: x348 :: x349 :: x350 :: x351 :: x352 :: x353 :: x354 :: x355 :: x356 :: x357 :: x358 :: x359 :: 
    x360 :: x361 :: x362 :: x363 :: x364 :: x365 :: x366 :: x367 :: x368 :: x369 :: x370 :: []) → Frag) _ _ _ _ _ _ _ _ _ _ _ _ _ _ _ _ _ _ _ _ 
    _ _ _ _ _ _ _ _ _ _ _ _ _ _ _ _ _ _ _ _ 
    _ _ _ _ _ _ _ _ _ _ _ _ _ _ _ _ _ _ _ _ 
    _ _ _ _ _ _ _ _ _ _ _ _ _ _ _ _ _ _ _ _ 
    _ _ _ _ _ _ _ _ _ _ _ _ _ _ _ _ _ _ _ _ 
    _ _ _ _ _ _ _ _ _ _ _ _ _ _ _ _ _ _ _ _ 
    _ _ _ _ _ _ _ _ _ _ _ _ _ _ _ _ _ _ _ _ 
    _ _ _ _ _ _ _ _ _ _ _ _ _ _ _ _ _ _ _ _ 
    _ _ _ _ _ _ _ _ _ _ _ _ _ _ _ _ _ _ _ _ 
    _ _ _ _ _ _ _ _ _ _ _ _ _ _ _ _ _ _ _ _ 
    _ _ _ _ _ _ _ _ _ _ _ _ _ _ _ _ _ _ _ _ 
    _ _ _ _ _ _ _ _ _ _ _ _ _ _ _ _ _ _ _ _ 
    _ _ _ _ _ _ _ _ _ _ _ _ _ _ _ _ _ _ _ _ 
    _ _ _ _ _ _ _ _ _ _ _ _ _ _ _ _ _ _ _ _ 
    _ _ _ _ _ _ _ _ _ _ _ _ _ _ _ _ _ _ _ _ 
    _ _ _ _ _ _ _ _ _ _ _ _ _ _ _ _ _ _ _ _ 
    _ _ _ _ _ _ _ _ _ _ _ _ _ _ _ _ _ _ _ _ 
    _ _ _ _ _ _ _ _ _ _ _ _ _ _ _ _ _ _ _ _ 
    _ _ _ _ _ _ _ _ _ _ _ rfl
  exact fun x0 x1 x2 x3 x4 x5 x6 x7 x8 x9 x10 x11 x12 x13 x14 x15 x16 x17 x18 x19 
    x20 x21 x22 x23 x24 x25 x26 x27 x28 x29 x30 x31 x32 x33 x34 x35 x36 x37 x38 x39 
    x40 x41 x42 x43 x44 x45 x46 x47 x48 x49 x50 x51 x52 x53 x54 x55 x56 x57 x58 x59 
    x60 x61 x62 x63 x64 x65 x66 x67 x68 x69 x70 x71 x72 x73 x74 x75 x76 x77 x78 x79 
    x80 x81 x82 x83 x84 x85 x86 x87 x88 x89 x90 x91 x92 x93 x94 x95 x96 x97 x98 x99 
    x100 x101 x102 x103 x104 x105 x106 x107 x108 x109 x110 x111 x112 x113 x114 x115 x116 x117 x118 x119 
    x120 x121 x122 x123 x124 x125 x126 x127 x128 x129 x130 x131 x132 x133 x134 x135 x136 x137 x138 x139 
    x140 x141 x142 x143 x144 x145 x146 x147 x148 x149 x150 x151 x152 x153 x154 x155 x156 x157 x158 x159 
    x160 x161 x162 x163 x164 x165 x166 x167 x168 x169 x170 x171 x172 x173 x174 x175 x176 x177 x178 x179 
    x180 x181 x182 x183 x184 x185 x186 x187 x188 x189 x190 x191 x192 x193 x194 x195 x196 x197 x198 x199 
    x200 x201 x202 x203 x204 x205 x206 x207 x208 x209 x210 x211 x212 x213 x214 x215 x216 x217 x218 x219 
    x220 x221 x222 x223 x224 x225 x226 x227 x228 x229 x230 x231 x232 x233 x234 x235 x236 x237 x238 x239 
    x240 x241 x242 x243 x244 x245 x246 x247 x248 x249 x250 x251 x252 x253 x254 x255 x256 x257 x258 x259 
    x260 x261 x262 x263 x264 x265 x266 x267 x268 x269 x270 x271 x272 x273 x274 x275 x276 x277 x278 x279 
    x280 x281 x282 x283 x284 x285 x286 x287 x288 x289 x290 x291 x292 x293 x294 x295 x296 x297 x298 x299 
    x300 x301 x302 x303 x304 x305 x306 x307 x308 x309 x310 x311 x312 x313 x314 x315 x316 x317 x318 x319 
    x320 x321 x322 x323 x324 x325 x326 x327 x328 x329 x330 x331 x332 x333 x334 x335 x336 x337 x338 x339 
    x340 x341 x342 x343 x344 x345 x346 x347 x348 x349 x350 x351 x352 x353 x354 x355 x356 x357 x358 x359 
    x360 x361 x362 x363 x364 x365 x366 x367 x368 x369 x370 _ => (x0 :: x1 :: x2 :: x3 :: x4 :: x5 :: x6 :: x7 :: x8 :: x9 :: x10 :: x11 :: x12 :: x13 :: x14 :: x15 :: x16 :: x17 :: x18 :: x19 :: 
    x20 :: x21 :: x22 :: x23 :: x24 :: x25 :: x26 :: x27 :: x28 :: x29 :: x30 :: x31 :: x32 :: x33 :: x34 :: x35 :: x36 :: x37 :: x38 :: x39 :: 
    x40 :: x41 :: x42 :: x43 :: x44 :: x45 :: x46 :: x47 :: x48 :: x49 :: x50 :: x51 :: x52 :: x53 :: x54 :: x55 :: x56 :: x57 :: x58 :: x59 :: 
    x60 :: x61 :: x62 :: x63 :: x64 :: x65 :: x66 :: x67 :: x68 :: x69 :: x70 :: x71 :: x72 :: x73 :: x74 :: x75 :: x76 :: x77 :: x78 :: x79 :: 
    x80 :: x81 :: x82 :: x83 :: x84 :: x85 :: x86 :: x87 :: x88 :: x89 :: x90 :: x91 :: x92 :: x93 :: x94 :: x95 :: x96 :: x97 :: x98 :: x99 :: 
    x100 :: x101 :: x102 :: x103 :: x104 :: x105 :: x106 :: x107 :: x108 :: x109 :: x110 :: x111 :: x112 :: x113 :: x114 :: x115 :: x116 :: x117 :: x118 :: x119 :: 
    x120 :: x121 :: x122 :: x123 :: x124 :: x125 :: x126 :: x127 :: x128 :: x129 :: x130 :: x131 :: x132 :: x133 :: x134 :: x135 :: x136 :: x137 :: x138 :: x139 :: 
    x140 :: x141 :: x142 :: x143 :: x144 :: x145 :: x146 :: x147 :: x148 :: x149 :: x150 :: x151 :: x152 :: x153 :: x154 :: x155 :: x156 :: x157 :: x158 :: x159 :: 
    x160 :: x161 :: x162 :: x163 :: x164 :: x165 :: x166 :: x167 :: x168 :: x169 :: x170 :: x171 :: x172 :: x173 :: x174 :: x175 :: x176 :: x177 :: x178 :: x179 :: 
    x180 :: x181 :: x182 :: x184 :: x185 :: x186 :: x187 :: x188 :: x189 :: x190 :: x191 :: x192 :: x193 :: x194 :: x195 :: x196 :: x197 :: x198 :: x199 :: x200 :: 
    x201 :: x202 :: x203 :: x204 :: x205 :: x206 :: x207 :: x208 :: x209 :: x210 :: x211 :: x212 :: x213 :: x214 :: x215 :: x216 :: x217 :: x218 :: x219 :: x220 :: 
    x221 :: x222 :: x223 :: x224 :: x225 :: x226 :: x227 :: x228 :: x229 :: x230 :: x231 :: x232 :: x233 :: x234 :: x235 :: x236 :: x237 :: x238 :: x239 :: x240 :: 
    x241 :: x242 :: x243 :: x244 :: x245 :: x246 :: x247 :: x248 :: x249 :: x250 :: x251 :: x252 :: x253 :: x254 :: x255 :: x256 :: x257 :: x258 :: x259 :: x260 :: 
    x261 :: x262 :: x263 :: x264 :: x265 :: x266 :: x267 :: x268 :: x269 :: x270 :: x271 :: x272 :: x273 :: x274 :: x275 :: x276 :: x277 :: x278 :: x279 :: x280 :: 
    x281 :: x282 :: x283 :: x284 :: x285 :: x286 :: x287 :: x288 :: x289 :: x290 :: x291 :: x292 :: x293 :: x294 :: x295 :: x296 :: x297 :: x298 :: x299 :: x300 :: 
    x301 :: x302 :: x303 :: x305 :: x306 :: x307 :: x308 :: x309 :: x310 :: x311 :: x312 :: x313 :: x314 :: x315 :: x316 :: x317 :: x318 :: x319 :: x320 :: x321 :: 
    x322 :: x323 :: x324 :: x325 :: x326 :: x327 :: x328 :: x329 :: x330 :: x331 :: x332 :: x333 :: x334 :: x335 :: x336 :: x337 :: x338 :: x339 :: x340 :: x341 :: 
    x342 :: x343 :: x344 :: x345 :: x346 :: x347 :: x348 :: x349 :: x350 :: x351 :: x352 :: x353 :: x354 :: x355 :: x356 :: x357 :: x358 :: x359 :: x360 :: x361 :: 
    x362 :: x363 :: x364 :: x365 :: x366 :: x367 :: x368 :: x369 :: x370 :: [])
theorem lookup_keep : ∀ (l : Frag) (a : Addr) (o : Obj), List.lookup a (l.filter fun p => !(p.1 == 216 || p.1 == 354)) = some o → List.lookup a l = some o
  | [], _, _, h => by cases h
  | (b, p) :: l, a, o, h => by
    rw [List.filter_cons] at h
    cases hb : (!(b == 216 || b == 354)) with
    | true =>
      rw [if_pos (by simpa using hb), List.lookup_cons] at h
      rw [List.lookup_cons]
      cases e : (a == b) with
      | true => rw [e] at h; exact h
      | false => rw [e] at h; exact lookup_keep l a o h
    | false =>
      rw [if_neg (by simpa using hb)] at h
      have h2 := lookup_keep l a o h
      rw [List.lookup_cons]
      cases e : (a == b) with
      | false => exact h2
      | true =>
        exfalso
        have e := eq_of_beq e
        subst e
        have : ∀ l : Frag, List.lookup a (l.filter fun p => !(p.1 == 216 || p.1 == 354)) = none := by
          intro l
          induction l with
          | nil => rfl
          | cons q l ih =>
            rw [List.filter_cons]
            split
            · rename_i hq
              rw [List.lookup_cons]
              have : (a == q.1) = false := by
                cases hh : (a == q.1) with
                | false => rfl
                | true => have := eq_of_beq hh; subst this; rw [hb] at hq; cases hq
              rw [this]; exact ih
            · exact ih
        rw [this] at h; cases h
theorem K0_eq (P : Params) : K0 P = (hd.heap_39 P).filter fun p => !(p.1 == 216 || p.1 == 354) := by kernel_rfl
theorem K0_sub {P : Params} {h : Heap} (X : (hd.heap_39 P).In h) : (K0 P).In h := by
  intro a o e
  rw [K0_eq] at e
  exact X a o (lookup_keep _ _ _ e)
noncomputable abbrev loos : List Str := looseW hd.view_39
      [Str.ofString "to_unicode", Str.ofString "CaselessDict", Str.ofString "NAME", Str.ofString "UNSAFE_CHAR",
        Str.ofString "QUNSAFE_CHAR", Str.ofString "validate_param_value", Str.ofString "q_split",
        Str.ofString "Parameters", Str.ofString "UFOLD", Str.ofString "_strip_ows_around_delimiters",
        Str.ofString "Contentline", Str.ofString "_law_signs", Str.ofString "_law_marks"]

/-- what a call stands on -/
structure Cx (w : World) (mean : ExcName → Option Value) (mg mb : Str → Option Value) (A₀ : Around) (base : Heap) (outer : List Env) (h₀ : Heap) (L : Addr) (m : Str → Option Value)
    (news : List (Addr × Obj)) (h : Heap) : Prop where
  B : Below A₀ base outer h₀
  F : Fr h₀ L h m
  X : (K0 w.params).In h₀
  N : News h₀ L h news
  T : Top hd.view_39 loos mean mg mb h₀

/-- the caller's frame: any def's -/
abbrev cal (dp un : Nat) (gd : Option (List Code)) (cn : Str) (nms : List (Str × NameKind)) (ig ic : Bool) (mo : List (Str × Const)) (L a : Addr) (ccd : Value) (cl : List (Str × Addr)) (outer : List Env) : Around :=
  { handled := none, depth := dp, frames := some (envX cn { kind := .function, names := nms, isGenerator := ig, isCoroutine := ic, more := mo } L a ccd cl :: outer), guards := gd, units := un }
/-- what a callee may do: nothing but new objects -/
abbrev Ret (h₀ : Heap) (L : Addr) (m : Str → Option Value) (news : List (Addr × Obj)) (s : Shared) (Q : Value → Shared → Prop) (R : Tok → Value) : Prop :=
  ∀ (t : Tok) (h' : Heap) (tk' : Nat), Fr h₀ L h' m → News h₀ L h' news → Q (R t) { s with heap := h', toks := tk' }
end Mine
end
/-! part Gh0 -/
section
theorem Mine.startGh0 : True := by
  w_top off
  exact trivial
local macro_rules | `(tactic| walk_at "pad0") => `(tactic| skip)
open PySem PySem.W PyProof.Rows PySem.Calls PySem.Spec
namespace Mine
set_option maxRecDepth 100000
theorem own39 : ownsOf hd.view_39 = [] := by kernel_rfl
theorem tabs39 (P : Params) : ((recsOf hd.view_39).all fun d => match tabIn (K0 P) d.name with | some (_, q) => !(q == 216) && !(q == 354) | none => false) = true := by kernel_rfl
section
variable {h₁ : Heap} {tabs : List (Addr × Addr)} {mg mb : Str → Option Value} {mean : ExcName → Option Value} {Pm : Params}
theorem ghost_code1 {cd : Value} {q : Str} (hT : TabsAt tabs h₁) (x : h₁.CodeRec cd q) : (ghostOf h₁ tabs).CodeRec cd q :=
  let ⟨c, o, vs, t, e, g, hd, r⟩ := x
  ⟨c, o, vs, t, e, ghost_get hT g (fun q => by rw [q] at hd; cases hd; simp at r), hd, r⟩
theorem top_ghost (hT : TabsAt tabs h₁) (hts : ∀ q ∈ tabs, q.2 = 216 ∨ q.2 = 354) (X : (K0 Pm).In h₁) (T : Top hd.view_39 loos mean mg mb h₁) : Top hd.view_39 loos mean mg mb (ghostOf h₁ tabs) where
  g := ghost_ns hT T.g
  b := ghost_ns hT T.b
  nolimit := let ⟨mc, a, r⟩ := T.nolimit; ⟨mc, ghost_ns hT a, r⟩
  nodigits := let ⟨mc, a, r⟩ := T.nodigits; ⟨mc, ghost_ns hT a, r⟩
  fn := fun d hd =>
    let ⟨a, o, pm, code, doc, h1, h2, h3, h4⟩ := T.fn d hd
    ⟨a, o, pm, code, doc, h1, ghost_get hT h2 (fun q => by rw [q] at h3; cases h3), h3, ghost_code1 hT h4⟩
  own := fun o ho => by rw [own39] at ho; cases ho
  const := T.const
  free := T.free
  builtins := T.builtins
  tab := fun d hdr => by
    obtain ⟨a, o, fd, c, P, h1, h2, h3, h4, h5, h6⟩ := T.tab d hdr
    have ht := List.all_eq_true.mp (tabs39 Pm) d hdr
    cases htc : tabIn (K0 Pm) d.name with
    | none => rw [htc] at ht; cases ht
    | some cp =>
      obtain ⟨c2, P2⟩ := cp
      rw [htc] at ht
      simp only [Bool.and_eq_true, Bool.not_eq_true', beq_eq_false_iff_ne, ne_eq] at ht
      have e1 := law_code X T.g htc h1 h2 h3
      rw [h4] at e1
      cases e1
      obtain ⟨d2, hd2⟩ : ∃ d2, (recsOf hd.view_39).find? (fun e => e.name == d.name) = some d2 := by
        cases hf : (recsOf hd.view_39).find? (fun e => e.name == d.name) with
        | some d2 => exact ⟨d2, rfl⟩
        | none => exact absurd (List.find?_eq_none.mp hf d hdr) (by simp)
      obtain ⟨hC, hPo⟩ := tab_of T X hd2 htc
      have hPP : P = P2 := by
        obtain ⟨⟨o1, v1, a1, a2, a3, a4⟩, _⟩ := h6
        obtain ⟨o3, v3, _, _, _, _, _, _, _, b1, b2, b3, b4, _⟩ := hC
        rw [a1] at b1; cases b1
        rw [a3] at b3; cases b3
        rw [a4] at b4; cases b4; rfl
      subst hPP
      have hnt : P ∉ tabs.map (·.2) := fun q => by
        obtain ⟨r, hr, e⟩ := List.mem_map.mp q
        rcases hts r hr with z | z
        · exact ht.1 (e.symm.trans z)
        · exact ht.2 (e.symm.trans z)
      have hPg := ghost_ne (tabs := tabs) h6.2 hnt
      have hCg : CodeHd (ghostOf h₁ tabs) c P := by
        obtain ⟨o', vs, file, tf, flags, tg, inF, text, tt, e1, r1, r2⟩ := hC
        exact ⟨o', vs, file, tf, flags, tg, inF, text, tt, ghost_get hT e1 (fun q => by rw [q] at r1; cases r1), r1, r2⟩
      exact ⟨a, o, fd, c, P, h1, ghost_get hT h2 (fun q => by rw [q] at h3; cases h3), h3, h4, hCg.code hPg trivial, hCg.tab hPg⟩
  bmain := let ⟨bm, ob, a1, a2, a3, a4, r⟩ := T.bmain; ⟨bm, ob, a1, a2, ghost_get hT a3 (fun q => by rw [q] at a4; cases a4), a4, r⟩
  seer := fun e => by
    have x := T.seer e
    exact ⟨let ⟨mc, a, b⟩ := x.statics; ⟨mc, ghost_ns hT a, b⟩, let ⟨mc, a, b⟩ := x.mods; ⟨mc, ghost_ns hT a, b⟩, let ⟨mc, a, b⟩ := x.imp; ⟨mc, ghost_ns hT a, b⟩,
      let ⟨mg, bm, ob, a, b, c, d, e⟩ := x.main; ⟨mg, bm, ob, ghost_ns hT a, b, ghost_get hT c (fun q => by rw [q] at d; cases d), d, e⟩⟩
end
end Mine
end
/-! part Gh1 -/
section
theorem Mine.startGh1 : True := by
  w_top off
  exact trivial
open PySem PySem.W PyProof.Rows PySem.Calls PySem.Spec
set_option Elab.async false
namespace Mine
set_option maxRecDepth 100000
abbrev tbs : List (Addr × Addr) := [(220, 216), (358, 354)]
section
variable {h₁ h : Heap} {Pm : Params} {L : Addr} {m : Str → Option Value} {news : List (Addr × Obj)}
theorem lookup_filter {p : Addr × Obj → Bool} : ∀ {l : Frag} {a : Addr} {o : Obj}, (List.filter p l).lookup a = some o → ∃ q ∈ l, q.1 = a ∧ p q = true
  | [], _, _, e => by cases e
  | q :: r, a, o, e => by
    rw [List.filter_cons] at e
    cases hp : p q with
    | false =>
      rw [hp] at e
      obtain ⟨z, h1, h2⟩ := lookup_filter (l := r) (by simpa using e)
      exact ⟨z, .tail _ h1, h2⟩
    | true =>
      rw [hp, if_pos rfl] at e
      obtain ⟨b, x⟩ := q
      rw [List.lookup_cons] at e
      cases hb : a == b with
      | true => exact ⟨_, .head _, (eq_of_beq hb).symm, hp⟩
      | false =>
        rw [hb] at e
        obtain ⟨z, h1, h2⟩ := lookup_filter (l := r) e
        exact ⟨z, .tail _ h1, h2⟩
theorem tbs_at (X : (hd.heap_39 Pm).In h₁) : TabsAt tbs h₁ := by
  have hd1 : ∀ {c P : Addr} {vs : Array Value} {sl : Array (Option Value)} {file : Str} {tf tg tt : Tok} {flags text : Int} {inF : Bool}, (hd.heap_39 Pm).lookup c = some ⟨.type "code", none, .fields vs, sl⟩ → vs[11]? = some (.ref P) → vs.getD 11 .none = .ref P → vs.getD 18 .none = .str file tf → vs.getD 7 .none = .int flags tg → vs.getD 9 .none = .bool inF → vs.getD 10 .none = .int text tt → c ≠ P → CodeHd h₁ c P :=
    fun hl a1 a2 a3 a4 a5 a6 a7 => ⟨_, _, _, _, _, _, _, _, _, X _ _ hl, rfl, rfl, a1, a2, a3, a4, a5, a6, a7⟩
  intro q hq
  simp only [List.mem_cons, List.not_mem_nil, or_false] at hq
  rcases hq with rfl | rfl
  · exact ⟨hd1 rfl rfl rfl rfl rfl rfl rfl (by decide), X 216 _ rfl⟩
  · exact ⟨hd1 rfl rfl rfl rfl rfl rfl rfl (by decide), X 354 _ rfl⟩
theorem K0_ghost (X : (hd.heap_39 Pm).In h₁) : (K0 Pm).In (ghostOf h₁ tbs) := by
  intro a o e
  have e' := e
  rw [K0_eq] at e
  refine ghost_ne (K0_sub X a o e') fun q => ?_
  obtain ⟨z, _, h1, h2⟩ := lookup_filter e
  simp only [List.map_cons, List.map_nil, List.mem_cons, List.not_mem_nil, or_false] at q
  rw [← h1] at q
  rcases q with q | q <;> rw [q] at h2 <;> revert h2 <;> decide
end
end Mine
end
/-! part Next -/
section
theorem Mine.startNext : True := by
  w_top off
  exact trivial
local macro_rules | `(tactic| walk_at "pad0") => `(tactic| skip)
open PySem PySem.W PyProof.Rows PySem.Calls PySem.Spec
set_option Elab.async false
namespace Mine
section Next
local macro_rules | `(tactic| k_room) => `(tactic| ktr_room)
local macro_rules | `(tactic| k_units) => `(tactic| ktr_units)
local macro_rules | `(tactic| k_all) => `(tactic| assumption)

/-- the drawing state: the script's cut, a place, a number -/
def StObj (sc : Addr) (o : Obj) : Prop := ∃ (i x : Int) (ti tx : Tok) (n : Nat), 0 ≤ i ∧ i ≤ 30 ∧ 0 ≤ x ∧ x < 2147483647 ∧ o = listOf #[.ref sc, .int i ti, .int x tx] n

theorem UpdF.split' {d : Addr} {o : Obj} {l : List (Addr × Obj)} {g : Obj → List (Addr × Obj)} (U : UpdF d o l g) :
    ∃ own rest, l = own ++ (d, o) :: rest ∧ (∀ o', g o' = own ++ (d, o') :: rest) ∧ (∀ p ∈ own, p.1 ≠ d) ∧ ∀ p ∈ rest, p.1 ≠ d := U.split

theorem news_perm {h₀ h : Heap} {L : Addr} {l l' : List (Addr × Obj)} (N : News h₀ L h l) (hs : ∀ p ∈ l', p ∈ l) : News h₀ L h l' := fun p hp => N p (hs p hp)

set_option maxRecDepth 100000 in
set_option maxHeartbeats 4000000 in
theorem next_w (w : World) (mean : ExcName → Option Value) (mg mb : Str → Option Value)
    (dp un : Nat) (gd : Option (List Code)) (cn : Str) (nms : List (Str × NameKind)) (ig ic : Bool) (mo : List (Str × Const)) (a : Addr) (ccd : Value) (cl : List (Str × Addr)) (outer : List Env) (A₀ : Around) (base h₀ : Heap) (L : Addr) (m : Str → Option Value) (s : Shared)
    (Q E : Value → Shared → Prop) (st sc : Addr) (vs : List Value) (ns : List Int) (i x many : Int) (ti tx tm : Tok) (n n2 : Nat) (R : List (Addr × Obj))
    (C : Cx w mean mg mb A₀ base outer h₀ L m ((st, listOf #[.ref sc, .int i ti, .int x tx] n) :: (sc, listOf vs.toArray n2) :: R) s.heap)
    (hI : IntsAre vs ns) (hl : ns.length ≤ 30) (hne : @Ne Nat sc st) (hR : ∀ p ∈ R, p.1 ≠ st)
    (hi : 0 ≤ i) (hi2 : i ≤ 30) (hx0 : 0 ≤ x) (hx : x < 2147483647) (hm : 0 < many) (hm2 : many < 1000)
    (hd1 : dp + 20 < recursionLimit) (hu1 : un + 400 < cLine)
    (hret : ∀ (r i' x' : Int) (t ti' tx' : Tok) (n' : Nat) (h' : Heap) (tk' : Nat), 0 ≤ r → r < many → 0 ≤ i' → i' ≤ 30 → 0 ≤ x' → x' < 2147483647 → Fr h₀ L h' m →
      News h₀ L h' ((st, listOf #[.ref sc, .int i' ti', .int x' tx'] n') :: (sc, listOf vs.toArray n2) :: R) → Q (.int r t) { s with heap := h', toks := tk' }) :
    wpAny (model PySem.Challenge.rw_bl0007_01.row.prog w) (cal dp un gd cn nms ig ic mo L a ccd cl outer) (call (.ref 408) [.ref st, .int many tm]) Q E s := by
  obtain ⟨B, F, X, N, T⟩ := C
  revert X; k_fill; intro X
  refine wpAny_call ?_
  k_dflt k_enter
  k_steps
  · refine hret _ _ _ _ _ _ _ _ _ ?_ ?_ ?_ ?_ ?_ ?_ (by assumption) (by assumption)
    · rw [Int.fmod_eq_emod_of_nonneg _ (by omega)]; exact Int.emod_nonneg _ (by omega)
    · rw [Int.fmod_eq_emod_of_nonneg _ (by omega)]; exact Int.emod_lt_of_pos _ (by omega)
    · omega
    · omega
    · rw [Int.fmod_eq_emod_of_nonneg _ (by omega)]; exact Int.emod_nonneg _ (by omega)
    · rw [Int.fmod_eq_emod_of_nonneg _ (by omega)]; exact Int.emod_lt_of_pos _ (by omega)
  · refine hret _ _ _ _ _ _ _ _ _ ?_ ?_ hi hi2 ?_ ?_ (by assumption) (by assumption)
    · rw [Int.fmod_eq_emod_of_nonneg _ (by omega)]; exact Int.emod_nonneg _ (by omega)
    · rw [Int.fmod_eq_emod_of_nonneg _ (by omega)]; exact Int.emod_lt_of_pos _ (by omega)
    · rw [Int.fmod_eq_emod_of_nonneg _ (by omega)]; exact Int.emod_nonneg _ (by omega)
    · rw [Int.fmod_eq_emod_of_nonneg _ (by omega)]; exact Int.emod_lt_of_pos _ (by omega)

/-- a draw: any number below many; the state stays a state -/
theorem next_c {w : World} {mean : ExcName → Option Value} {mg mb : Str → Option Value}
    {dp un : Nat} {gd : Option (List Code)} {cn : Str} {nms : List (Str × NameKind)} {ig ic : Bool} {mo : List (Str × Const)} {a : Addr} {ccd : Value} {cl : List (Str × Addr)} {outer : List Env} {A₀ : Around} {base h₀ : Heap} {L : Addr} {m : Str → Option Value} {s : Shared}
    {Q E : Value → Shared → Prop} {st sc : Addr} {vs : List Value} {ns : List Int} {many : Int} {tm : Tok} {n2 : Nat} {news : List (Addr × Obj)} {o : Obj} {g : Obj → List (Addr × Obj)}
    (B : Below A₀ base outer h₀) (F : Fr h₀ L s.heap m) (X : (K0 w.params).In h₀) (N : News h₀ L s.heap news) (T : Top hd.view_39 loos mean mg mb h₀)
    (U : UpdF st o news g) (hS : StObj sc o) (hsc : (sc, listOf vs.toArray n2) ∈ news) (hI : IntsAre vs ns) (hl : ns.length ≤ 30) (hne : @Ne Nat sc st) (hm : 0 < many) (hm2 : many < 1000)
    (hd1 : dp + 20 < recursionLimit) (hu1 : un + 400 < cLine)
    (hret : ∀ (r : Int) (t : Tok) (o' : Obj) (h' : Heap) (tk' : Nat), 0 ≤ r → r < many → StObj sc o' → Fr h₀ L h' m → News h₀ L h' (g o') → Q (.int r t) { s with heap := h', toks := tk' }) :
    wpAny (model PySem.Challenge.rw_bl0007_01.row.prog w) (cal dp un gd cn nms ig ic mo L a ccd cl outer) (call (.ref 408) [.ref st, .int many tm]) Q E s := by
  obtain ⟨own, rest, rfl, hg, h1, h2⟩ := UpdF.split' U
  obtain ⟨i, x, ti, tx, n, hi, hi2, hx0, hx, rfl⟩ := hS
  refine next_w w mean mg mb dp un gd cn nms ig ic mo a ccd cl outer A₀ base h₀ L m s Q E st sc vs ns i x many ti tx tm n n2 (own ++ rest)
    ⟨B, F, X, news_perm N ?_, T⟩ hI hl hne ?_ hi hi2 hx0 hx hm hm2 hd1 hu1 ?_
  · intro p hp
    simp only [List.mem_cons, List.mem_append] at hp hsc ⊢
    rcases hp with rfl | rfl | hp | hp
    · exact .inr (.inl rfl)
    · rcases hsc with hsc | hsc | hsc
      · exact .inl hsc
      · exact absurd (congrArg Prod.fst hsc) hne
      · exact .inr (.inr hsc)
    · exact .inl hp
    · exact .inr (.inr hp)
  · intro p hp
    rcases List.mem_append.mp hp with hp | hp
    · exact h1 p hp
    · exact h2 p hp
  · intro r i' x' t ti' tx' n' h' tk' hr0 hr hi0' hi' hx0' hx' F' N'
    refine hret r t _ h' tk' hr0 hr ⟨i', x', ti', tx', n', hi0', hi', hx0', hx', rfl⟩ F' (news_perm N' ?_)
    intro p hp
    rw [hg] at hp
    simp only [List.mem_cons, List.mem_append] at hp ⊢
    rcases hp with hp | rfl | hp
    · exact .inr (.inr (.inl hp))
    · exact .inl rfl
    · exact .inr (.inr (.inr hp))
end Next
end Mine
end
/-! part Txts -/
section
theorem Mine.startTxts : True := by
  w_top off
  exact trivial
open PySem PySem.W PyProof.Rows PySem.Calls PySem.Spec
set_option Elab.async false
namespace Mine
/-- a text by its codes -/
abbrev S (l : List Nat) : Str := ⟨l.toArray⟩
theorem S_len (l : List Nat) : (S l).length = l.length := by simp [S, Str.length]
theorem S_inj {l r : List Nat} (h : S l = S r) : l = r := by
  have := congrArg (fun x : Str => x.cps.toList) h
  simpa [S] using this
theorem S_beq (l r : List Nat) : (S l == S r) = decide (l = r) := by
  by_cases h : l = r
  · subst h; simp
  · have : S l ≠ S r := fun e => h (S_inj e)
    simp [h, this]
theorem S_slice {l : List Nat} {a b : Nat} (h1 : a ≤ b) (h2 : b ≤ l.length) : PySem.Txt.slice (S l) (some (a : Int)) (some (b : Int)) = S ((l.take b).drop a) := by
  have h := slice_closes (x := S l) (i := (a : Int)) (j := (b : Int)) ⟨by omega, by omega, by simpa [S] using (by omega : (b : Int) ≤ l.length)⟩
  rw [eq_of_beq h]
  have e : ((b : Int) - (a : Int)).toNat = b - a := by omega
  simp only [S, Int.toNat_natCast, e, List.drop_take]
theorem S_slice_from {l : List Nat} {a : Nat} (h2 : a ≤ l.length) : PySem.Txt.slice (S l) (some (a : Int)) none = S (l.drop a) := by
  have h := slice_from_eq (x := S l) (i := (a : Int)) (b := (l.length : Int)) (by omega) (by rw [S_len]; omega) (by rw [S_len])
  rw [h]
  have e : ((l.length : Int) - (a : Int)).toNat = l.length - a := by omega
  simp only [S, Int.toNat_natCast, e]
  congr 2
  rw [List.take_of_length_le (by simp)]
theorem S_slice_to {l : List Nat} {b : Nat} (h2 : b ≤ l.length) : PySem.Txt.slice (S l) none (some (b : Int)) = S (l.take b) := by
  have h := slice_closes_to (x := S l) (j := (b : Int)) ⟨by omega, by simpa [S] using (by omega : (b : Int) ≤ l.length)⟩
  rw [eq_of_beq h]
  have e : ((b : Int) - 0).toNat = b := by omega
  simp [S, e]
theorem signs_S {l : List Nat} {i : Nat} {c : Str} (h : (signs (S l))[i]? = some c) : ∃ n, l[i]? = some n ∧ c = S [n] := by
  simp only [signs, S, List.getElem?_map] at h
  cases e : l[i]? with
  | none => simp [e] at h
  | some n => exact ⟨n, rfl, by simpa [e] using h.symm⟩
theorem strsAre_snoc : ∀ {vs : List Value} {ys : List Str} (y : Str) (t : Tok), StrsAre vs ys → StrsAre (vs ++ [.str y t]) (ys ++ [y])
  | _, _, y, t, .nil => .cons y t .nil
  | _, _, y, t, .cons z u h => .cons z u (strsAre_snoc y t h)
theorem drop_cons {α : Type} {l : List α} {i : Nat} {c : α} (h : l[i]? = some c) : l.drop i = c :: l.drop (i + 1) := by
  obtain ⟨hi, e⟩ := List.getElem?_eq_some_iff.mp h
  rw [List.drop_eq_getElem_cons hi, e]
theorem take_snoc {α : Type} {l : List α} {i : Nat} {c : α} (h : l[i]? = some c) : l.take (i + 1) = l.take i ++ [c] := by
  rw [List.take_add_one, h]; rfl

/-- an end that no line of the library may take -/
structure TEnd (P : Prop) : Prop where
  out : P

section
variable {M : Model} {A : Around} {E : Value → Shared → Prop} {s : Shared} {env : Env}
theorem tend {α : Type} {t : Sem α} {Q : α → Shared → Prop} (h : wpAny M A t (fun a s' => TEnd (Q a s')) E s) : wpAny M A t Q E s := wpAny_mono h (fun _ _ x => x.out) fun _ _ x => x

/-- what stands behind a statement -/
def Mid (h₀ : Heap) (L : Addr) (s : Shared) (P : (Str → Option Value) → List (Addr × Obj) → Prop) (s' : Shared) : Prop :=
  ∃ h' tk' m' news', s' = { s with heap := h', toks := tk' } ∧ Fr h₀ L h' m' ∧ News h₀ L h' news' ∧ P m' news'

theorem mid_intro {h₀ h' : Heap} {L : Addr} {tk' : Nat} {m' : Str → Option Value} {news' : List (Addr × Obj)} {P : (Str → Option Value) → List (Addr × Obj) → Prop}
    (F : Fr h₀ L h' m') (N : News h₀ L h' news') (p : P m' news') : TEnd (Flow.next = Flow.next ∧ Mid h₀ L s P { s with heap := h', toks := tk' }) := ⟨rfl, h', tk', m', news', rfl, F, N, p⟩
theorem execs_cut {h₀ : Heap} {L : Addr} {st : Stmt} {rest : List Stmt} {Q : Flow → Shared → Prop} (P : (Str → Option Value) → List (Addr × Obj) → Prop)
    (h1 : wpAny M A (exec st env) (fun f s' => TEnd (f = .next ∧ Mid h₀ L s P s')) E s)
    (h2 : ∀ h' tk' m' news', Fr h₀ L h' m' → News h₀ L h' news' → P m' news' → wpAny M A (execs rest env) Q E { s with heap := h', toks := tk' }) :
    wpAny M A (execs (st :: rest) env) Q E s := by
  refine wpAny_execs_cons (wpAny_mono h1 (fun f s' h => ?_) fun _ _ x => x)
  obtain ⟨rfl, h', tk', m', news', rfl, F', N', p⟩ := h.out
  exact h2 h' tk' m' news' F' N' p
end
theorem pick_head {h₀ h : Heap} {L l : Addr} {o : Obj} {r : List (Addr × Obj)} {P : Prop} (_ : News h₀ L h ((l, o) :: r)) (k : ∀ l', l' = l → P) : P := k l rfl
noncomputable def fdAt (K : Frag) (a : Addr) : FuncData := match K.lookup a with
  | some ⟨_, _, .func fd, _⟩ => fd
  | _ => default
end Mine
end
/-! part Star -/
section
theorem Mine.startStar : True := by
  w_top off
  exact trivial
open PySem PySem.W PyProof.Rows PySem.Calls PySem.Spec
set_option Elab.async false
set_option maxRecDepth 100000
namespace Mine
section
variable {prog : Program} {w : World} {A₀ A : Around} {s : Shared} {base h₀ : Heap} {outer : List Env} {L : Addr} {m : Str → Option Value} {env : Env} {news : List (Addr × Obj)} {K : Frag}
  {R : Result → Shared → Prop} {name qual : Str} {params : Arguments} {body : List Stmt} {scope : Scope} {dV kV doc pm cdv ct oc : Value} {an od : Option Addr} {osl : Array (Option Value)} {f : Addr} {args : Args}
  {cl : List (Str × Addr)} {mean : ExcName → Option Value} {mg mb : Str → Option Value} {p : Program} {loose : List Str}
abbrev tupOf (vs : List Value) : Obj := { cls := .type "tuple", data := .seq vs.toArray }

/-- a call of a def with *args and **kwargs, no keywords given -/
theorem star_def {n0 va kw : Str} {self : Value} {vs : List Value}
    (B : Below A₀ base outer h₀) (F : Fr h₀ L s.heap m) (X₀ : K.In h₀) (N : News h₀ L s.heap news) (T : Top p loose mean mg mb h₀) (hA : A.frames = some (env :: outer)) (hAB : A₀ = A) (hf : env.frame = some L) (hke : env.scope.kind = .function)
    (ho : K.lookup f = some ⟨oc, od, .func (fnX name qual params body scope cl dV kV doc pm an cdv ct), osl⟩) (hcd : codeIn K cdv qual = true) (hroom : A.depth < recursionLimit)
    (hbind : bindArgs (fnX name qual params body scope cl dV kV doc pm an cdv ct) ⟨self :: vs, []⟩ = (newTuple vs >>= fun t => alloc { cls := .type "dict", data := .dict #[] } >>= fun d => pure [(n0, self), (va, t), (kw, .ref d)]))
    (hvs : vs.length ≤ 4)
    (hloc : ∀ y ∈ ([(n0, .none), (va, .none), (kw, .none)] : List (Str × Value)), scope.names.lookup y.1 = some .local)
    (h : ∀ g L' h₁ t d, Fr h₀ L g m → Fr g L' h₁ (fun y => ([(n0, self), (va, .ref t), (kw, .ref d)] : List (Str × Value)).reverse.lookup y) → News g L' h₁ ((d, dictOf [] 0) :: (t, tupOf vs) :: news) → Below A base (env :: outer) g → K.In g → Top p loose mean mg mb g →
      t < d → (∀ q ∈ news, q.1 < t) → d < L' →
      wpAny (model prog w) (A.deeper (envX qual scope L' f cdv cl)) (execs body (envX qual scope L' f cdv cl))
        (fun fl s' => LeaveK h₀ L m g R (match fl with | .ret v => v | _ => .none) s')
        (fun e s' => wpAny (model prog w) (A.deeper (envX qual scope L' f cdv cl)) (leaving (envX qual scope L' f cdv cl) e) (fun _ s'' => R (.error e) s'') (fun e' s'' => R (.error e') s'') s')
        { s with heap := h₁, toks := s.toks + 3 })
    (hco : scope.isCoroutine = false) (hgen : scope.isGenerator = false) (hk : scope.kind = .function)
    (hcell : ∀ x ∈ scope.names, x.2 ≠ .cell) : codeAny (model prog w) A (.call (.ref f) ⟨self :: vs, []⟩) R s := by
  subst hAB
  have N1 := N.push F (tupOf vs)
  have F1 := F.push (tupOf vs)
  have N2 := N1.push F1 (dictOf [] 0)
  have F2 := F1.push (dictOf [] 0)
  obtain ⟨FG, BG, st, lv⟩ := groundX (s := { s with heap := (s.heap.push (tupOf vs)).push (dictOf [] 0) }) (R := R) B F2 N2 hA hf hke
  refine codeAny_call_function (fd := fnX name qual params body scope cl dV kV doc pm an cdv ct) (body := body) hroom ((X₀.keeps F.keep) _ _ ho) rfl hco hgen rfl (codeRec_of (X₀.keeps F.keep) hcd) ?_
  rw [hbind]
  refine wpAny_bind (wpAny_newTuple ?_ (by have := PySem.sizeLine_eq; omega))
  refine wpAny_bind (wpAny_alloc (wpAny_pure ?_))
  have hloc' : ∀ y ∈ ([(n0, self), (va, .ref s.heap.objs.size), (kw, .ref (s.heap.push (tupOf vs)).objs.size)] : List (Str × Value)), scope.names.lookup y.1 = some .local := by
    intro y hy
    simp only [List.mem_cons, List.not_mem_nil, or_false] at hy
    rcases hy with rfl | rfl | rfl
    · exact hloc (n0, .none) (by simp)
    · exact hloc (va, .none) (by simp)
    · exact hloc (kw, .none) (by simp)
  refine wpAny_newFunctionEnv (s := { s with heap := (s.heap.push (tupOf vs)).push (dictOf [] 0) }) hcell hloc' (fun h₁ hns hsb => ⟨(T.nolimit.keeps F2.keep).fresh _ hsb, codeAny_func ?_⟩) hk
  have hk₁ : ∀ b o, ((s.heap.push (tupOf vs)).push (dictOf [] 0)).get? b = some o → h₁.get? b = some o := fun b o e => hsb.extBut b o (Nat.ne_of_lt (Heap.lt_size e)) (Heap.get?_push_of_some _ e)
  refine wpAny_mono (h _ _ h₁ s.heap.objs.size (s.heap.push (tupOf vs)).objs.size FG ⟨hns, fun b o e => hk₁ b o (of_hideAll _ e), Nat.le_of_eq (hideAll_size _ _)⟩ (fun p hp => ⟨hk₁ _ _ (N2 p hp).1, Nat.ne_of_lt (Heap.lt_size (N2 p hp).1), hideAll_none _ (List.mem_map_of_mem hp)⟩) BG (X₀.keeps st) (T.keeps st)
    (by rw [Heap.size_push]; exact Nat.lt_succ_self _) (fun p hp => Heap.lt_size (N p hp).1) (by simp [Heap.size_push])) (fun fl s' hl => ?_) fun _ _ y => y
  exact lv _ _ hl
end
end Mine
end
/-! part Rep -/
section
theorem Mine.startRep : True := by
  w_top off
  exact trivial
open PySem PySem.W PyProof.Rows PySem.Calls PySem.Spec
set_option Elab.async false
namespace Mine
open PySem.StrLaws PySem.Builtin PySem.Builtin.Str

def repF (y z : List Nat) : Nat → List Nat → List Nat
  | 0, l => l
  | _ + 1, [] => []
  | n + 1, c :: r => if y.isPrefixOf (c :: r) then z ++ repF y z n ((c :: r).drop y.length) else c :: repF y z n r
/-- each y by z, from the left -/
def rep (y z l : List Nat) : List Nat := repF y z l.length l
theorem repF_any {y z : List Nat} (hy : y ≠ []) : ∀ (n m : Nat) (l : List Nat), l.length ≤ n → l.length ≤ m → repF y z n l = repF y z m l
  | 0, 0, _, _, _ => rfl
  | 0, m + 1, l, h, _ => by
    have : l = [] := List.length_eq_zero_iff.mp (by omega)
    subst this; rfl
  | n + 1, 0, l, _, h => by
    have : l = [] := List.length_eq_zero_iff.mp (by omega)
    subst this; rfl
  | n + 1, m + 1, [], _, _ => rfl
  | n + 1, m + 1, c :: r, h1, h2 => by
    have h3 : 0 < y.length := List.length_pos_iff.mpr hy
    unfold repF
    rw [repF_any hy n m r (by simp at h1; omega) (by simp at h2; omega),
      repF_any hy n m ((c :: r).drop y.length) (by simp at h1 ⊢; omega) (by simp at h2 ⊢; omega)]
theorem rep_nil (y z : List Nat) : rep y z [] = [] := rfl
theorem rep_cons {y z : List Nat} (hy : y ≠ []) (c : Nat) (r : List Nat) : rep y z (c :: r) = if y.isPrefixOf (c :: r) then z ++ rep y z ((c :: r).drop y.length) else c :: rep y z r := by
  have h3 : 0 < y.length := List.length_pos_iff.mpr hy
  have e : rep y z (c :: r) = if y.isPrefixOf (c :: r) then z ++ repF y z r.length ((c :: r).drop y.length) else c :: repF y z r.length r := rfl
  rw [e, repF_any hy r.length ((c :: r).drop y.length).length ((c :: r).drop y.length) (by simp; omega) (Nat.le_refl _)]
  rfl

theorem at_iff {l y : List Nat} (hy : y ≠ []) {k : Nat} : At (S l) (S y) l.length k ↔ y.isPrefixOf (l.drop k) = true := by
  unfold At
  rw [subAt_eq, List.isPrefixOf_iff_prefix, S_len]
  simp only [S, beq_iff_eq]
  constructor
  · rintro ⟨h1, h2⟩
    refine ⟨(l.drop k).drop y.length, ?_⟩
    conv => lhs; lhs; rw [← h2]
    exact List.take_append_drop _ _
  · rintro ⟨t, e⟩
    have := congrArg List.length e
    simp at this
    by_cases hk : k ≤ l.length
    · refine ⟨by omega, ?_⟩
      rw [← e, List.take_left]
    · have h0 : l.drop k = [] := List.drop_eq_nil_iff.mpr (by omega)
      rw [h0] at e
      exact absurd (List.append_eq_nil_iff.mp e).1 hy
theorem at_iff' {l y : List Nat} (hy : y ≠ []) {k : Nat} : At (S l) (S y) (S l).length k ↔ y.isPrefixOf (l.drop k) = true := by rw [S_len]; exact at_iff hy

theorem rep_skip {y z l : List Nat} (hy : y ≠ []) : ∀ (n a c : Nat), c - a = n → a ≤ c → c ≤ l.length → (∀ k, a ≤ k → k < c → ¬ y.isPrefixOf (l.drop k) = true) → rep y z (l.drop a) = (l.take c).drop a ++ rep y z (l.drop c)
  | 0, a, c, h, h1, h2, _ => by
    have : a = c := by omega
    subst this
    rw [List.drop_eq_nil_of_le (as := l.take a) (by simp; omega)]; rfl
  | n + 1, a, c, h, h1, h2, hn => by
    have ha : a < l.length := by omega
    rw [List.drop_eq_getElem_cons ha, rep_cons hy, if_neg (by rw [← List.drop_eq_getElem_cons ha]; exact hn a (Nat.le_refl _) (by omega)),
      rep_skip hy n (a + 1) c (by omega) (by omega) h2 (fun k h3 h4 => hn k (by omega) h4)]
    have : (l.take c).drop a = l[a] :: (l.take c).drop (a + 1) := by
      rw [List.drop_eq_getElem_cons (by simp; omega)]
      simp
    rw [this]; rfl
theorem sub_S (l : List Nat) (a c : Nat) : strSub (S l) a c = S ((l.take c).drop a) := by
  simp [strSub, S, List.drop_take]
theorem S_app (a b : List Nat) : S a ++ S b = S (a ++ b) := by
  apply Str.ext'
  simp [S, Str.cps_append]
theorem join_cons2 (z p q : Str) (r : List Str) : Str.join z (p :: q :: r) = p ++ z ++ Str.join z (q :: r) := rfl
theorem rep_parts {y z l : List Nat} (hy : y ≠ []) : ∀ (cuts : List Nat) (a f : Nat), ChainG (S l) (S y) (S l).length a cuts f → (∀ k, f ≤ k → ¬ At (S l) (S y) (S l).length k) → a ≤ l.length →
    Str.join (S z) (partsFrom (S l) y.length a cuts) = S (rep y z (l.drop a))
  | [], a, f, h, hf, ha => by
    have e : f = a := h
    subst e
    rw [rep_skip hy _ f l.length rfl ha (Nat.le_refl _) (fun k h1 _ => fun q => hf k h1 ((at_iff' hy).mpr q))]
    show strSub (S l) f (S l).length = _
    rw [S_len, sub_S, List.drop_length]
    rw [rep_nil, List.append_nil]
  | c :: r, a, f, h, hf, ha => by
    obtain ⟨h1, h2, h3, h4⟩ := h
    have hc := h2.1
    rw [S_len, S_len] at hc
    rw [S_len] at h4
    have ih := rep_parts (z := z) hy r (c + y.length) f h4 hf hc
    have hp := (at_iff' hy).mp h2
    have h3' := List.length_pos_iff.mpr hy
    rw [rep_skip hy _ a c rfl h1 (by omega) (fun k h5 h6 => fun q => h3 k h5 h6 ((at_iff' hy).mpr q))]
    have hcl : c < l.length := by omega
    have e2 : rep y z (l.drop c) = z ++ rep y z (l.drop (c + y.length)) := by
      conv => lhs; rw [List.drop_eq_getElem_cons hcl]
      rw [rep_cons hy, if_pos (by rw [← List.drop_eq_getElem_cons hcl]; exact hp), ← List.drop_eq_getElem_cons hcl, List.drop_drop]
    rw [e2]
    show Str.join (S z) (strSub (S l) a c :: partsFrom (S l) y.length (c + y.length) r) = _
    obtain ⟨p, q, e⟩ := partsFrom_ne (S l) y.length (c + y.length) r
    rw [e] at ih ⊢
    rw [join_cons2, ih, sub_S, S_app, S_app, List.append_assoc]
theorem replace_S {y : List Nat} (hy : y ≠ []) (z l : List Nat) : Txt.replace (S l) (S y) (S z) = S (rep y z l) := by
  have hyl : 1 ≤ (S y).length := by rw [S_len]; exact List.length_pos_iff.mpr hy
  obtain ⟨f, hch, hno⟩ := occ_tight (S l) (S y) hyl
  have key := rep_parts (z := z) hy _ 0 f hch hno (Nat.zero_le _)
  unfold Txt.replace
  have h0 : ((S y).length == 0) = false := by rw [beq_eq_false_iff_ne]; omega
  rw [h0, Bool.false_and, Bool.or_false]
  split
  · rename_i he
    have he' : occurrences (S l) (S y) 0 (S l).length ((S l).length + 1) = [] := by simpa using he
    rw [he'] at key
    have : Str.join (S z) (partsFrom (S l) y.length 0 []) = S l := by
      show strSub (S l) 0 (S l).length = _
      rw [sub_S, S_len]; simp
    rw [this, List.drop_zero] at key
    exact key
  · rw [glued_eq_join, partsBetween_eq, S_len y, key, List.drop_zero]

theorem rep_len {y z : List Nat} (hy : y ≠ []) : ∀ (n : Nat) (l : List Nat), l.length ≤ n → (rep y z l).length ≤ l.length * (z.length + 1)
  | 0, l, h => by
    have : l = [] := List.length_eq_zero_iff.mp (by omega)
    subst this; simp [rep_nil]
  | n + 1, [], _ => by simp [rep_nil]
  | n + 1, c :: r, h => by
    rw [rep_cons hy]
    have h3 := List.length_pos_iff.mpr hy
    split
    · have ih := rep_len (z := z) hy n ((c :: r).drop y.length) (by simp at h ⊢; omega)
      simp only [List.length_append, List.length_drop, List.length_cons] at ih ⊢
      have h4 : (r.length + 1 - y.length) * (z.length + 1) ≤ r.length * (z.length + 1) := Nat.mul_le_mul_right _ (by omega)
      have h5 : (r.length + 1) * (z.length + 1) = r.length * (z.length + 1) + (z.length + 1) := by rw [Nat.add_mul]; omega
      omega
    · have ih := rep_len (z := z) hy n r (by simp at h; omega)
      simp only [List.length_cons]
      have h5 : (r.length + 1) * (z.length + 1) = r.length * (z.length + 1) + (z.length + 1) := by rw [Nat.add_mul]; omega
      omega
/-- a text without the head of y stays as it is -/
theorem rep_free {y z : List Nat} {c : Nat} {r : List Nat} (hy : y = c :: r) : ∀ l : List Nat, c ∉ l → rep y z l = l
  | [], _ => rfl
  | d :: l, h => by
    have hne : y ≠ [] := by rw [hy]; simp
    rw [rep_cons hne, if_neg, rep_free hy l (fun q => h (.tail _ q))]
    subst hy
    simp only [List.isPrefixOf, Bool.and_eq_true, beq_iff_eq]
    rintro ⟨e, _⟩
    exact h (e ▸ List.mem_cons_self ..)
end Mine
end
/-! part Plain -/
section
theorem Mine.startPlain : True := by
  w_top off
  exact trivial
open PySem PySem.W PyProof.Rows PySem.Calls PySem.Spec
set_option Elab.async false
set_option maxRecDepth 100000
namespace Mine
section
variable {prog : Program} {w : World} {A : Around} {s : Shared} {K : Frag}
  {R : Result → Shared → Prop} {name qual : Str} {params : Arguments} {body : List Stmt} {scope : Scope} {dV kV doc pm cdv ct oc : Value} {an od : Option Addr} {osl : Array (Option Value)} {f : Addr} {args : Args} {binds : List (Str × Value)}
  {cl : List (Str × Addr)} {mean : ExcName → Option Value} {mg mb : Str → Option Value} {p : Program} {loose : List Str}

/-- what a plain def gives back -/
def Gives (R : Result → Shared → Prop) (fl : Flow) (s' : Shared) : Prop := R (.ok (.ret (match fl with | .ret v => v | _ => .none))) s'
theorem Gives.ret {v : Value} {s' : Shared} (h : R (.ok (.ret v)) s') : Gives R (.ret v) s' := h
theorem Gives.next {s' : Shared} (h : R (.ok (.ret .none)) s') : Gives R .next s' := h

/-- a call of a def from anywhere: its frame is new, all else stays -/
theorem plain_def (X : K.In s.heap) (T : Top p loose mean mg mb s.heap)
    (ho : K.lookup f = some ⟨oc, od, .func (fnX name qual params body scope cl dV kV doc pm an cdv ct), osl⟩) (hcd : codeIn K cdv qual = true) (hroom : A.depth < recursionLimit)
    (hbind : BindsTo s (fnX name qual params body scope cl dV kV doc pm an cdv ct) args binds)
    (hloc : ∀ y ∈ binds, scope.names.lookup y.1 = some .local)
    (h : ∀ L' h₁ tk, s.toks + binds.length = tk → Fr s.heap L' h₁ (fun y => binds.reverse.lookup y) → News s.heap L' h₁ [] →
      wpAny (model prog w) (A.deeper (envX qual scope L' f cdv cl)) (execs body (envX qual scope L' f cdv cl)) (Gives R)
        (fun e s' => wpAny (model prog w) (A.deeper (envX qual scope L' f cdv cl)) (leaving (envX qual scope L' f cdv cl) e) (fun _ s'' => R (.error e) s'') (fun e' s'' => R (.error e') s'') s')
        { s with heap := h₁, toks := tk })
    (hco : scope.isCoroutine = false) (hgen : scope.isGenerator = false) (hk : scope.kind = .function)
    (hcell : ∀ x ∈ scope.names, x.2 ≠ .cell) : codeAny (model prog w) A (.call (.ref f) args) R s := by
  refine codeAny_call_def (fd := fnX name qual params body scope cl dV kV doc pm an cdv ct) (body := body) (binds := binds) hroom (X _ _ ho) rfl T.nolimit (codeRec_of X hcd) rfl hbind hcell hloc (fun h₁ hns hk₁ => ?_) hco hgen hk
  exact h _ h₁ _ rfl ⟨hns, hk₁, Nat.le_refl _⟩ News.nil

theorem any_S (x : Str) : x = S x.cps.toList := rfl
theorem repl_r {E : Value → Shared → Prop} {Q : Value → Shared → Prop} {x Y Z : Str} {t u v : Tok} (hu : u ≠ 0) (hv : v ≠ 0) (huv : u ≠ v) (hyz : (Y == Z) = false) (hY : 1 ≤ Y.length) (hZ : Z.length ≤ 3) (hx : x.length ≤ 1048576)
    (hq : ∀ t' k x', s.toks ≤ k → x' = Txt.replace x Y Z → x'.length ≤ x.length * 4 → Q (.str x' t') { s with toks := k }) : wpAny (model prog w) A (call (.builtin "str.replace") [.str x t, .str Y u, .str Z v]) Q E s := by
  refine wpAny_with_toks (Nat.le_refl s.toks) (SC.replaceW hu hv huv hyz hx (by omega) fun t' k hk => hq t' k _ hk rfl ?_)
  have hy : Y.cps.toList ≠ [] := by
    intro e
    have : Y.length = 0 := by
      show Y.cps.size = 0
      rw [← Array.length_toList, e]; rfl
    omega
  have h1 := rep_len (y := Y.cps.toList) (z := Z.cps.toList) hy x.cps.toList.length x.cps.toList (Nat.le_refl _)
  have e := replace_S (y := Y.cps.toList) hy Z.cps.toList x.cps.toList
  have e2 : Txt.replace x Y Z = S (rep Y.cps.toList Z.cps.toList x.cps.toList) := e
  rw [e2, S_len]
  have e3 : Z.cps.toList.length = Z.length := by simp [Str.length]
  have e4 : x.cps.toList.length = x.length := by simp [Str.length]
  rw [e3, e4] at h1
  exact Nat.le_trans h1 (Nat.mul_le_mul_left _ (by omega))
end
end Mine
end
/-! part Esc -/
section
theorem Mine.startEsc : True := by
  w_top off
  exact trivial
local macro_rules | `(tactic| walk_at "pad0") => `(tactic| skip)
local macro_rules | `(tactic| walk_at "pad1") => `(tactic| skip)
open PySem PySem.W PyProof.Rows PySem.Calls PySem.Spec
set_option Elab.async false
namespace Mine
section Esc
local macro_rules | `(tactic| k_room) => `(tactic| ktr_room)
local macro_rules | `(tactic| k_units) => `(tactic| ktr_units)
local macro_rules | `(tactic| k_all) => `(tactic| assumption)
local macro_rules | `(tactic| walk_at "call builtin:str.replace") => `(tactic| (refine repl_r (by first | omega | ((show @Ne Nat _ _); omega)) (by first | omega | ((show @Ne Nat _ _); omega)) (by first | omega | ((show @Ne Nat _ _); omega)) (by decide) (by decide) (by decide) (by omega) ?_; intro _ _ _ hk _ _; (try dsimp only at hk)))

set_option pp.deepTerms false
set_option pp.maxSteps 3000
set_option maxRecDepth 100000 in
set_option maxHeartbeats 4000000 in
theorem unesc_w {w : World} {mean : ExcName → Option Value} {mg mb : Str → Option Value} {A : Around} {s : Shared} {Q E : Value → Shared → Prop} {x : Str} {t : Tok}
    (X : (K0 w.params).In s.heap) (T : Top hd.view_39 loos mean mg mb s.heap) (hd1 : A.depth < recursionLimit) (hx : x.length ≤ 1000)
    (hret : ∀ t' h' tk', (∀ b o, s.heap.get? b = some o → h'.get? b = some o) →
      Q (.str (Txt.replace (Txt.replace (Txt.replace (Txt.replace (Txt.replace x (Str.ofString "%2C") (Str.ofString ",")) (Str.ofString "%3A") (Str.ofString ":")) (Str.ofString "%3B") (Str.ofString ";")) (Str.ofString "%5C") (Str.ofString "\\")) (Str.ofString "%25") (Str.ofString "%")) t') { s with heap := h', toks := tk' }) :
    wpAny (model PySem.Challenge.rw_bl0007_01.row.prog w) A (call (.ref 191) [.str x t]) Q E s := by
  revert X; k_fill; intro X
  refine wpAny_call ?_
  refine' plain_def (binds := [(Str.ofString "val", .str x t)]) X T ?ho ?hcd ?hroom ?hb ?hl ?_ ?c2 ?c3 ?c4 ?c5
  case ho => k_is
  case hcd => k_is
  case hroom => assumption
  case hb => exact BindsTo.of_eq rfl
  case hl => exact locs rfl
  case c2 => rfl
  case c3 => rfl
  case c4 => rfl
  case c5 => decide
  intro L' h₁ tk0 htk F' N'
  replace htk : 0 < tk0 := by rw [← htk]; exact Nat.succ_pos _
  dsimp only
  k_steps
  subst_vars
  exact hret _ _ _ F'.keep
set_option pp.deepTerms false
set_option pp.maxSteps 3000
set_option maxRecDepth 100000 in
set_option maxHeartbeats 4000000 in
theorem esc_w {w : World} {mean : ExcName → Option Value} {mg mb : Str → Option Value} {A : Around} {s : Shared} {Q E : Value → Shared → Prop} {x : Str} {t : Tok}
    (X : (K0 w.params).In s.heap) (T : Top hd.view_39 loos mean mg mb s.heap) (hd1 : A.depth < recursionLimit) (hx : x.length ≤ 1000)
    (hret : ∀ t' h' tk', (∀ b o, s.heap.get? b = some o → h'.get? b = some o) →
      Q (.str (Txt.replace (Txt.replace (Txt.replace (Txt.replace (Txt.replace x (Str.ofString "%") (Str.ofString "%25")) (Str.ofString "\\,") (Str.ofString "%2C")) (Str.ofString "\\:") (Str.ofString "%3A")) (Str.ofString "\\;") (Str.ofString "%3B")) (Str.ofString "\\\\") (Str.ofString "%5C")) t') { s with heap := h', toks := tk' }) :
    wpAny (model PySem.Challenge.rw_bl0007_01.row.prog w) A (call (.ref 184) [.str x t]) Q E s := by
  revert X; k_fill; intro X
  refine wpAny_call ?_
  refine' plain_def (binds := [(Str.ofString "val", .str x t)]) X T ?ho ?hcd ?hroom ?hb ?hl ?_ ?c2 ?c3 ?c4 ?c5
  case ho => k_is
  case hcd => k_is
  case hroom => assumption
  case hb => exact BindsTo.of_eq rfl
  case hl => exact locs rfl
  case c2 => rfl
  case c3 => rfl
  case c4 => rfl
  case c5 => decide
  intro L' h₁ tk0 htk F' N'
  replace htk : 0 < tk0 := by rw [← htk]; exact Nat.succ_pos _
  dsimp only
  k_steps
  subst_vars
  exact hret _ _ _ F'.keep
end Esc
end Mine
end
/-! part Loops -/
section
theorem Mine.startLoops : True := by
  w_top off
  exact trivial
open PySem PySem.W PyProof.Rows PySem.Calls PySem.Spec
set_option Elab.async false
namespace Mine
section
variable {prog : Program} {w : World} {A : Around} {E : Value → Shared → Prop} {s : Shared} {env : Env} {h₀ : Heap} {L : Addr} {Q : Flow → Shared → Prop}

/-- the end of a turn -/
def WEnd (h₀ : Heap) (L : Addr) (s : Shared) (J : Nat → (Str → Option Value) → List (Addr × Obj) → Prop) (n : Nat) (f : Flow) (s' : Shared) : Prop :=
  f = .next ∧ ∃ n' h tk m news, n' < n ∧ s' = { s with heap := h, toks := tk } ∧ Fr h₀ L h m ∧ News h₀ L h news ∧ J n' m news
theorem WEnd.mk' {J : Nat → (Str → Option Value) → List (Addr × Obj) → Prop} {n n' : Nat} {h : Heap} {tk : Nat} {m : Str → Option Value} {news : List (Addr × Obj)} (F : Fr h₀ L h m) (N : News h₀ L h news) (hn : n' < n) (hJ : J n' m news) :
    TEnd (WEnd h₀ L s J n .next { s with heap := h, toks := tk }) := ⟨rfl, n', h, tk, m, news, hn, rfl, F, N, hJ⟩

theorem while_F {test : Expr} {body : List Stmt} {pos : Pos} {n₀ : Nat} {m₀ : Str → Option Value} {news₀ : List (Addr × Obj)} (J : Nat → (Str → Option Value) → List (Addr × Obj) → Prop)
    (F : Fr h₀ L s.heap m₀) (N : News h₀ L s.heap news₀) (hJ : J n₀ m₀ news₀)
    (turn : ∀ n h tk m news, s.toks ≤ tk → J n m news → Fr h₀ L h m → News h₀ L h news →
      wpAny (model prog w) A (isTrue test env (eval test env)) (fun b s₂ =>
        if b then wpAny (model prog w) A (execs body env) (fun f s₃ => TEnd (WEnd h₀ L s J n f s₃)) (notedBy (model prog w) A env fun e s' => cameBackBy (model prog w) A env E e s') s₂
        else Q .next s₂) (notedBy (model prog w) A env fun e s' => cameBackBy (model prog w) A env E e s') { s with heap := h, toks := tk }) :
    wpAny (model prog w) A (exec (.While test body [] pos) env) Q E s := by
  refine wpAny_While (codeAny_whileLoop (fun n s' => s.toks ≤ s'.toks ∧ ∃ h tk m news, s' = { s with heap := h, toks := tk } ∧ Fr h₀ L h m ∧ News h₀ L h news ∧ J n m news) ?_ n₀ ⟨Nat.le_refl _, s.heap, s.toks, m₀, news₀, rfl, F, N, hJ⟩)
  rintro n _ ⟨ht, h, tk, m, news, rfl, F', N', hJ'⟩
  refine wpAny_with_toks ht (wpAny_mono (turn n h tk m news ht hJ' F' N') (fun b s₂ hb ht2 => ?_) fun _ _ x _ => x)
  cases b
  · simp only [Bool.false_eq_true, if_false] at hb ⊢
    exact wpAny_execs_nil hb
  · simp only [if_true] at hb ⊢
    refine wpAny_with_toks ht2 (wpAny_mono hb (fun f s₃ hf ht3 => ?_) fun _ _ x _ => x)
    obtain ⟨rfl, n', h', tk', m', news', hn, rfl, F'', N'', J''⟩ := hf.out
    exact ⟨n', hn, ht3, h', tk', m', news', rfl, F'', N'', J''⟩
end
end Mine
end
/-! part Ubs -/
section
theorem Mine.startUbs : True := by
  w_top off
  exact trivial
local macro_rules | `(tactic| walk_at "pad0") => `(tactic| skip)
local macro_rules | `(tactic| walk_at "pad1") => `(tactic| skip)
local macro_rules | `(tactic| walk_at "pad2") => `(tactic| skip)
local macro_rules | `(tactic| walk_at "pad3") => `(tactic| skip)
open PySem PySem.W PyProof.Rows PySem.Calls PySem.Spec
set_option Elab.async false
namespace Mine
section Ubs
local macro_rules | `(tactic| k_room) => `(tactic| ktr_room)
local macro_rules | `(tactic| k_units) => `(tactic| ktr_units)
local macro_rules | `(tactic| k_all) => `(tactic| assumption)
local macro_rules | `(tactic| walk_at "eval Name") => `(tactic| (k_here; k_dflt (first
  | (refine' ld ?k1 ?k2 ?_; (case k1 => k_asm); (case k2 => first | exact rfl | assumption); k_whole)
  | (refine' nameX_L ?F ?v ?_ ?a ?b; (case F => k_asm); (case a => rfl); (case b => rfl); (case v => first | exact rfl | assumption); k_whole))))
local macro_rules | `(tactic| walk_at "loadName") => `(tactic| (k_here; k_dflt (refine' ldn ?k1 ?k2 ?_; (case k1 => k_asm); (case k2 => first | exact rfl | assumption); k_whole)))
local macro_rules | `(tactic| walk_at "call builtin:str.join") => `(tactic| (k_here; (with_reducible show wpAny _ _ (call (Value.builtin _) [Value.str _ _, Value.ref _]) _ _ _); k_dflt (refine' join_list ?a ?b ?c ?_; (case a => exact News.isList (by k_asm) (by k_mem)); (case b => assumption); (case c => assumption); k_whole; intro _ _)))
local macro_rules | `(tactic| walk_at "exec While Compare") => `(tactic| refine TEnd.out ?_)

/-- the names of a loop over a text by an index -/
structure IM (m : Str → Option Value) (p : Str) (x : Str) (l : Addr) (i : Nat) : Prop where
  val : ∃ t, m p = some (.str x t)
  res : m (Str.ofString "result") = some (.ref l)
  i : ∃ t, m (Str.ofString "i") = some (.int i t)

def isEsc (d : Nat) : Bool := decide (d ∈ [92, 44, 59, 58, 110, 78])
def ub : List Nat → List Nat
  | [] => []
  | [c] => [c]
  | c :: d :: r => if c = 92 ∧ isEsc d = true then (if d = 110 ∨ d = 78 then 10 else d) :: ub r else c :: ub (d :: r)

open PySem.Builtin.Str in
theorem item_S {l : List Nat} {i c : Nat} (h : l[i]? = some c) : Txt.item (S l) (i : Int) = S [c] := by
  have hi : i < l.length := (List.getElem?_eq_some_iff.mp h).1
  have e := StrLaws.at_nonneg (x := S l) (i := (i : Int)) (n := c) (by omega) (by simpa [S] using h)
  unfold Txt.item
  show (⟨#[(((seqIndex? (i : Int) (S l).length).bind ((S l).cps[·]?))).getD 0]⟩ : Str) = _
  rw [e]; rfl
open PySem.Builtin.Str in
theorem occ_S (l : List Nat) (d : Nat) : (occurrences (S l) (S [d]) 0 (S l).length 1).isEmpty = !(decide (d ∈ l)) := by
  have := StrLaws.found_one (S l) d
  have h2 : (occurrences (S l) (S [d]) 0 (S l).length 1).isEmpty = !(!(occurrences (S l) ⟨#[d]⟩ 0 (S l).length 1).isEmpty) := by rw [Bool.not_not]
  rw [h2, this]
theorem join_ones (acc : List Nat) : Txt.join (Str.ofString "") (acc.map fun c => S [c]) = S acc := by
  have : Txt.join (Str.ofString "") (acc.map fun c => S [c]) = Str.join ⟨#[]⟩ (acc.map fun k => (⟨#[k]⟩ : Str)) := StrLaws.glued_eq_join _ _
  rw [this]
  exact PyProof.Rows.join_ones acc
theorem ub_plain {x : List Nat} {i c : Nat} (hc : x[i]? = some c) (h : c = 92 → ∀ d, x[i + 1]? = some d → isEsc d = false) : ub (x.drop i) = c :: ub (x.drop (i + 1)) := by
  rw [drop_cons hc]
  cases hd : x[i + 1]? with
  | none =>
    rw [List.drop_eq_nil_of_le (as := x) (i := i + 1) (by simpa using hd)]
    rfl
  | some d =>
    rw [drop_cons hd, ub, if_neg]
    rintro ⟨e, f⟩
    rw [h e d hd] at f
    cases f
theorem ub_esc {x : List Nat} {i d : Nat} (hc : x[i]? = some 92) (hd : x[i + 1]? = some d) (h : isEsc d = true) : ub (x.drop i) = (if d = 110 ∨ d = 78 then 10 else d) :: ub (x.drop (i + 2)) := by
  rw [drop_cons hc, drop_cons hd, ub, if_pos ⟨rfl, h⟩]
theorem sum_ones (acc : List Nat) : ((acc.map fun c => S [c]).map (·.length)).sum = acc.length := by
  induction acc with
  | nil => rfl
  | cons c r ih => simp only [List.map_cons, List.sum_cons, ih, S_len, List.length_cons, List.length_nil]; omega
theorem strsAre_length : ∀ {vs : List Value} {ys : List Str}, StrsAre vs ys → vs.length = ys.length
  | _, _, .nil => rfl
  | _, _, .cons _ _ h => by simp [strsAre_length h]

set_option pp.deepTerms false
set_option pp.maxSteps 3000
set_option maxRecDepth 100000 in
set_option maxHeartbeats 4000000 in
theorem ubs_w {w : World} {mean : ExcName → Option Value} {mg mb : Str → Option Value} {A : Around} {s : Shared} {Q E : Value → Shared → Prop} {x : List Nat} {y : Str} {t : Tok}
    (X : (K0 w.params).In s.heap) (T : Top hd.view_39 loos mean mg mb s.heap) (hd1 : A.depth < recursionLimit) (hy : y = S x) (hx : y.length ≤ 1000)
    (hret : ∀ t' h' tk', (∀ b o, s.heap.get? b = some o → h'.get? b = some o) → Q (.str (S (ub x)) t') { s with heap := h', toks := tk' }) :
    wpAny (model PySem.Challenge.rw_bl0007_01.row.prog w) A (call (.ref 303) [.str y t]) Q E s := by
  revert X; k_fill; intro X
  refine wpAny_call ?_
  refine' plain_def (binds := [(Str.ofString "val", .str y t)]) X T ?ho ?hcd ?hroom ?hb ?hl ?_ ?c2 ?c3 ?c4 ?c5
  case ho => k_is
  case hcd => k_is
  case hroom => omega
  case hb => exact BindsTo.of_eq rfl
  case hl => exact locs rfl
  case c2 => rfl
  case c3 => rfl
  case c4 => rfl
  case c5 => decide
  intro L' h₁ tk0 htk F' N'
  replace htk : 0 < tk0 := by rw [← htk]; exact Nat.succ_pos _
  dsimp only
  k_steps
  have hyl : y.length = x.length := by rw [hy, S_len]
  refine pick_head (o := listOf #[] 0) (r := []) (by assumption) fun l hl => ?_
  subst hl
  refine TEnd.mk ?_
  refine while_F (h₀ := s.heap) (L := L') (fun n m news => ∃ (i : Nat) (acc : List Nat) (vs : List Value) (k : Nat), n = x.length - i ∧ i ≤ x.length ∧ IM m (Str.ofString "val") y l i ∧ news = [(l, listOf vs.toArray k)] ∧
    StrsAre vs (acc.map fun c => S [c]) ∧ vs.toArray.size ≤ i ∧ acc ++ ub (x.drop i) = ub x) (n₀ := x.length) (by assumption) (by assumption) ⟨0, [], [], 0, rfl, Nat.zero_le _, ⟨⟨_, rfl⟩, rfl, ⟨_, rfl⟩⟩, rfl, .nil, Nat.zero_le _, rfl⟩ ?_
  rintro n h tk m news htk2 ⟨i, acc, vs, k, rfl, hi, ⟨⟨u1, e1⟩, e2, ⟨u3, e3⟩⟩, rfl, hvs, hsz, hub⟩ F1 N1

  have hsum : ((acc.map fun c => S [c]).map (·.length)).sum + (acc.map fun c => S [c]).length * (Str.ofString "").length ≤ 16777216 := by
    rw [sum_ones]
    have h1 := strsAre_length hvs
    have h2 : (Str.ofString "").length = 0 := by decide +kernel
    rw [h2]
    simp at h1 hsz ⊢
    omega
  have hbs : Str.ofString "\\" = S [92] := by decide +kernel
  have hmk : Str.ofString "\\,;:nN" = S [92, 44, 59, 58, 110, 78] := by decide +kernel
  have hnn : Str.ofString "nN" = S [110, 78] := by decide +kernel
  have hnl : Str.ofString "\n" = S [10] := by decide +kernel
  have hgo : ∀ (j z : Nat) (v : Str) (tok : Tok) (k' : Nat) h' (tk' : Nat) m' (s0 : Shared), v = S [z] → i < j → j ≤ x.length → ub (x.drop i) = z :: ub (x.drop j) → Fr s.heap L' h' m' → News s.heap L' h' [(l, listOf (vs.toArray.push (.str v tok)) k')] → IM m' (Str.ofString "val") y l j →
      TEnd (WEnd s.heap L' s0 (fun n m news => ∃ (i : Nat) (acc : List Nat) (vs : List Value) (k : Nat), n = x.length - i ∧ i ≤ x.length ∧ IM m (Str.ofString "val") y l i ∧ news = [(l, listOf vs.toArray k)] ∧
    StrsAre vs (acc.map fun c => S [c]) ∧ vs.toArray.size ≤ i ∧ acc ++ ub (x.drop i) = ub x) (x.length - i) .next { s0 with heap := h', toks := tk' }) := by
    intro j z v tok k' h' tk' m' s0 hv hij hj hu F1 N1 M1
    refine WEnd.mk' (n' := x.length - j) F1 N1 (by omega) ⟨j, acc ++ [z], vs ++ [.str v tok], k', rfl, hj, M1, by rw [List.push_toArray], ?_, ?_, ?_⟩
    · rw [hv, List.map_append]; exact strsAre_snoc _ _ hvs
    · simp at hsz ⊢; omega
    · rw [← hub, hu, List.append_assoc]; rfl
  have hitem : ∀ k : Nat, k < x.length → ∃ c, x[k]? = some c ∧ Txt.item y (k : Int) = S [c] := fun k hk => by
    refine ⟨x[k], List.getElem?_eq_getElem hk, ?_⟩
    rw [hy]
    exact item_S (List.getElem?_eq_getElem hk)
  k_steps
  · obtain ⟨c, hc, hit⟩ := hitem i (by omega)
    refine hgo (i + 1) c _ _ _ _ _ _ _ hit (by omega) (by omega) (ub_plain hc fun _ d hd => ?_) (by assumption : Fr s.heap L' _ (fun y => if y = Str.ofString "i" then _ else m y)) (by assumption) ⟨⟨_, e1⟩, e2, ⟨_, rfl⟩⟩
    have hoc := (by assumption : (Builtin.Str.occurrences (Str.ofString "\\,;:nN") (Txt.item y (↑i + 1)) 0 (Str.ofString "\\,;:nN").length 1).isEmpty = true)
    have hit3 : Txt.item y (↑i + 1) = S [d] := by rw [hy]; exact item_S hd
    rw [hit3, hmk, occ_S] at hoc
    unfold isEsc
    simpa only [Bool.not_eq_true'] using hoc
  · obtain ⟨c, hc, hit⟩ := hitem i (by omega)
    obtain ⟨d, hd, hit2⟩ := hitem (i + 1) (by omega)
    have hit3 : Txt.item y (↑i + 1) = S [d] := hit2
    have hyes := (by assumption : (Txt.item y ↑i == Str.ofString "\\") = true)
    rw [hit, hbs] at hyes
    have h92 : c = 92 := by simpa using S_inj (eq_of_beq hyes)
    have hoc := (by assumption : (Builtin.Str.occurrences (Str.ofString "\\,;:nN") (Txt.item y (↑i + 1)) 0 (Str.ofString "\\,;:nN").length 1).isEmpty = false)
    rw [hit3, hmk, occ_S] at hoc
    have hn := (by assumption : (Builtin.Str.occurrences (Str.ofString "nN") (Txt.item y (↑i + 1)) 0 (Str.ofString "nN").length 1).isEmpty = true)
    rw [hit3, hnn, occ_S] at hn
    have hnd : ¬ (d = 110 ∨ d = 78) := by simpa using hn
    refine hgo (i + 2) d _ _ _ _ _ _ _ hit3 (by omega) (by omega) ?_ (by assumption : Fr s.heap L' _ (fun y => if y = Str.ofString "i" then _ else m y)) (by assumption) ⟨⟨_, e1⟩, e2, ⟨_, rfl⟩⟩
    rw [ub_esc (h92 ▸ hc) hd (by unfold isEsc; simpa only [Bool.not_eq_false'] using hoc), if_neg hnd]
  · obtain ⟨c, hc, hit⟩ := hitem i (by omega)
    obtain ⟨d, hd, hit2⟩ := hitem (i + 1) (by omega)
    have hit3 : Txt.item y (↑i + 1) = S [d] := hit2
    have hyes := (by assumption : (Txt.item y ↑i == Str.ofString "\\") = true)
    rw [hit, hbs] at hyes
    have h92 : c = 92 := by simpa using S_inj (eq_of_beq hyes)
    have hoc := (by assumption : (Builtin.Str.occurrences (Str.ofString "\\,;:nN") (Txt.item y (↑i + 1)) 0 (Str.ofString "\\,;:nN").length 1).isEmpty = false)
    rw [hit3, hmk, occ_S] at hoc
    have hn := (by assumption : (Builtin.Str.occurrences (Str.ofString "nN") (Txt.item y (↑i + 1)) 0 (Str.ofString "nN").length 1).isEmpty = false)
    rw [hit3, hnn, occ_S] at hn
    have hnd : (d = 110 ∨ d = 78) := by
      rw [Bool.not_eq_false', decide_eq_true_eq] at hn
      simpa using hn
    refine hgo (i + 2) 10 _ _ _ _ _ _ _ hnl (by omega) (by omega) ?_ (by assumption : Fr s.heap L' _ (fun y => if y = Str.ofString "i" then _ else m y)) (by assumption) ⟨⟨_, e1⟩, e2, ⟨_, rfl⟩⟩
    rw [ub_esc (h92 ▸ hc) hd (by unfold isEsc; simpa only [Bool.not_eq_false'] using hoc), if_pos hnd]
  · obtain ⟨c, hc, hit⟩ := hitem i (by omega)
    refine hgo (i + 1) c _ _ _ _ _ _ _ hit (by omega) (by omega) (ub_plain hc fun _ d hd => ?_) (by assumption : Fr s.heap L' _ (fun y => if y = Str.ofString "i" then _ else m y)) (by assumption) ⟨⟨_, e1⟩, e2, ⟨_, rfl⟩⟩
    exfalso
    have := (List.getElem?_eq_some_iff.mp hd).1
    omega
  · obtain ⟨c, hc, hit⟩ := hitem i (by omega)
    refine hgo (i + 1) c _ _ _ _ _ _ _ hit (by omega) (by omega) (ub_plain hc fun h92 d hd => ?_) (by assumption : Fr s.heap L' _ (fun y => if y = Str.ofString "i" then _ else m y)) (by assumption) ⟨⟨_, e1⟩, e2, ⟨_, rfl⟩⟩
    have hno := (by assumption : (Txt.item y ↑i == Str.ofString "\\") = false)
    rw [hit, hbs, h92] at hno
    simp at hno
  have hend : i = x.length := by omega
  subst hend
  rw [List.drop_length] at hub
  have hub' : acc = ub x := by rw [← hub]; simp [ub]
  rw [join_ones, hub']
  exact hret _ _ _ (Fr.keep (by assumption))
end Ubs
end Mine
end
/-! part Rfc -/
section
theorem Mine.startRfc : True := by
  w_top off
  exact trivial
local macro_rules | `(tactic| walk_at "pad0") => `(tactic| skip)
local macro_rules | `(tactic| walk_at "pad1") => `(tactic| skip)
local macro_rules | `(tactic| walk_at "pad2") => `(tactic| skip)
local macro_rules | `(tactic| walk_at "pad3") => `(tactic| skip)
local macro_rules | `(tactic| walk_at "pad4") => `(tactic| skip)
local macro_rules | `(tactic| walk_at "pad5") => `(tactic| skip)
local macro_rules | `(tactic| walk_at "pad6") => `(tactic| skip)
local macro_rules | `(tactic| walk_at "pad7") => `(tactic| skip)
local macro_rules | `(tactic| walk_at "pad8") => `(tactic| skip)
open PySem PySem.W PyProof.Rows PySem.Calls PySem.Spec
set_option Elab.async false
namespace Mine
section Rfc
local macro_rules | `(tactic| k_room) => `(tactic| ktr_room)
local macro_rules | `(tactic| k_units) => `(tactic| ktr_units)
local macro_rules | `(tactic| k_all) => `(tactic| assumption)
local macro_rules | `(tactic| walk_at "eval Name") => `(tactic| (k_here; k_dflt (first
  | (refine' ld ?k1 ?k2 ?_; (case k1 => k_asm); (case k2 => first | exact rfl | assumption); k_whole)
  | (refine' nameX_L ?F ?v ?_ ?a ?b; (case F => k_asm); (case a => rfl); (case b => rfl); (case v => first | exact rfl | assumption); k_whole))))
local macro_rules | `(tactic| walk_at "loadName") => `(tactic| (k_here; k_dflt (refine' ldn ?k1 ?k2 ?_; (case k1 => k_asm); (case k2 => first | exact rfl | assumption); k_whole)))
local macro_rules | `(tactic| walk_at "call builtin:str.join") => `(tactic| (k_here; (with_reducible show wpAny _ _ (call (Value.builtin _) [Value.str _ _, Value.ref _]) _ _ _); k_dflt (refine' join_list ?a ?b ?c ?_; (case a => exact News.isList (by k_asm) (by k_mem)); (case b => assumption); (case c => assumption); k_whole; intro _ _)))
local macro_rules | `(tactic| walk_at "exec While Compare") => `(tactic| refine TEnd.out ?_)

theorem pick_second {h₀ h : Heap} {L l d : Addr} {o o2 : Obj} {r : List (Addr × Obj)} {P : Prop} (_ : News h₀ L h ((l, o) :: (d, o2) :: r)) (k : ∀ o', o' = o2 → P) : P := k o2 rfl
def rf : List Nat → List Nat
  | [] => []
  | [c] => [c]
  | c :: d :: r => if c = 94 ∧ d = 94 then 94 :: rf r else if c = 94 ∧ d = 110 then 10 :: rf r else if c = 94 ∧ d = 39 then 34 :: rf r else c :: rf (d :: r)

open PySem.Builtin.Str in
theorem idx_past {i j : Int} {n : Nat} (h : (n : Int) ≤ j) : strSliceIndices (some i) (some j) 1 n = strSliceIndices (some i) (some (n : Int)) 1 n := by
  have a : ¬ ((n : Int) < 0) := by omega
  have b : ¬ (j < 0) := by omega
  have e : max (0 : Int) (min j (n : Int)) = n := by omega
  have e2 : max (0 : Int) (min (n : Int) (n : Int)) = n := by omega
  simp [strSliceIndices, a, b, e, e2]
theorem S_slice_past {l : List Nat} {a : Nat} {j : Int} (h1 : a ≤ l.length) (h2 : (l.length : Int) ≤ j) : Txt.slice (S l) (some (a : Int)) (some j) = S (l.drop a) := by
  have h := S_slice (l := l) (a := a) (b := l.length) h1 (Nat.le_refl _)
  rw [List.take_length] at h
  rw [← h]
  unfold Txt.slice
  rw [idx_past (by rw [S_len]; exact h2), S_len]
theorem S_slice_two {l : List Nat} {a : Nat} (h1 : a ≤ l.length) : Txt.slice (S l) (some (a : Int)) (some ((a : Int) + 2)) = S ((l.drop a).take 2) := by
  by_cases h : a + 2 ≤ l.length
  · have := S_slice (l := l) (a := a) (b := a + 2) (by omega) h
    have e : ((a + 2 : Nat) : Int) = (a : Int) + 2 := by omega
    rw [e] at this
    rw [this, List.drop_take]
    congr 2
    omega
  · rw [S_slice_past h1 (by omega), List.take_of_length_le (by simp; omega)]
def lk3 (p : Str) : Option PyData := if S [94, 94] = p then some (.str (S [94])) else if S [94, 110] = p then some (.str (S [10])) else if S [94, 39] = p then some (.str (S [34])) else none
theorem lk_is (p : Str) (a b c d e f : Tok) : Spec.lookup (PyData.str p) (strData [(Value.str (Str.ofString "^^") a, Value.str (Str.ofString "^") b), (Value.str (Str.ofString "^n") c, Value.str (Str.ofString "\n") d), (Value.str (Str.ofString "^'") e, Value.str (Str.ofString "\"") f)]) = lk3 p := by
  have e1 : Str.ofString "^^" = S [94, 94] := by decide +kernel
  have e2 : Str.ofString "^n" = S [94, 110] := by decide +kernel
  have e3 : Str.ofString "^'" = S [94, 39] := by decide +kernel
  have e4 : Str.ofString "^" = S [94] := by decide +kernel
  have e5 : Str.ofString "\n" = S [10] := by decide +kernel
  have e6 : Str.ofString "\"" = S [34] := by decide +kernel
  rw [e1, e2, e3, e4, e5, e6]
  have hs : ∀ x y : Str, Spec.same (.str x) (.str y) = (x == y) := fun x y => by unfold Spec.same; rfl
  simp only [strData, datumOf, Option.getD_some, Spec.lookup, hs, beq_iff_eq]
  rfl
theorem flat_str {v : Value} {x : Str} (h : PyProof.V.Flat v (.str x)) : ∃ t, v = .str x t := by
  have := h default
  cases this
  exact ⟨_, rfl⟩
theorem rf_hit {x : List Nat} {i c d z : Nat} (hc : x[i]? = some c) (hd : x[i + 1]? = some d) (h : c = 94 ∧ (d = 94 ∧ z = 94 ∨ d = 110 ∧ z = 10 ∨ d = 39 ∧ z = 34)) : rf (x.drop i) = z :: rf (x.drop (i + 2)) := by
  rw [drop_cons hc, drop_cons hd, rf]
  obtain ⟨rfl, ⟨rfl, rfl⟩ | ⟨rfl, rfl⟩ | ⟨rfl, rfl⟩⟩ := h <;> simp
theorem rf_miss {x : List Nat} {i c : Nat} (hc : x[i]? = some c) (h : lk3 (S ((x.drop i).take 2)) = none) : rf (x.drop i) = c :: rf (x.drop (i + 1)) := by
  rw [drop_cons hc] at h ⊢
  cases hd : x[i + 1]? with
  | none =>
    rw [List.drop_eq_nil_of_le (as := x) (i := i + 1) (by simpa using hd)]
    rfl
  | some d =>
    rw [drop_cons hd] at h ⊢
    rw [rf]
    simp only [List.take_succ_cons, List.take_zero] at h
    unfold lk3 at h
    by_cases h1 : S [94, 94] = S [c, d]
    · rw [if_pos h1] at h; cases h
    · rw [if_neg h1] at h
      by_cases h2 : S [94, 110] = S [c, d]
      · rw [if_pos h2] at h; cases h
      · rw [if_neg h2] at h
        by_cases h3 : S [94, 39] = S [c, d]
        · rw [if_pos h3] at h; cases h
        · rw [if_neg (fun q => h1 (by rw [q.1, q.2])), if_neg (fun q => h2 (by rw [q.1, q.2])), if_neg (fun q => h3 (by rw [q.1, q.2]))]

set_option pp.deepTerms false
set_option pp.maxSteps 3000
set_option maxRecDepth 100000 in
set_option maxHeartbeats 4000000 in
theorem rfc_w {w : World} {mean : ExcName → Option Value} {mg mb : Str → Option Value} {A : Around} {s : Shared} {Q E : Value → Shared → Prop} {x : List Nat} {y : Str} {t : Tok}
    (X : (K0 w.params).In s.heap) (T : Top hd.view_39 loos mean mg mb s.heap) (hd1 : A.depth < recursionLimit) (hy : y = S x) (hx : y.length ≤ 1000)
    (hret : ∀ t' h' tk', (∀ b o, s.heap.get? b = some o → h'.get? b = some o) → Q (.str (S (rf x)) t') { s with heap := h', toks := tk' }) :
    wpAny (model PySem.Challenge.rw_bl0007_01.row.prog w) A (call (.ref 291) [.str y t]) Q E s := by
  revert X; k_fill; intro X
  refine wpAny_call ?_
  refine' plain_def (binds := [(Str.ofString "param_value", .str y t)]) X T ?ho ?hcd ?hroom ?hb ?hl ?_ ?c2 ?c3 ?c4 ?c5
  case ho => k_is
  case hcd => k_is
  case hroom => omega
  case hb => exact BindsTo.of_eq rfl
  case hl => exact locs rfl
  case c2 => rfl
  case c3 => rfl
  case c4 => rfl
  case c5 => decide
  intro L' h₁ tk0 htk F' N'
  replace htk : 0 < tk0 := by rw [← htk]; exact Nat.succ_pos _
  dsimp only
  k_steps
  dsimp only at *
  have hyl : y.length = x.length := by rw [hy, S_len]
  rename_i N0
  generalize h₁.objs.size = d at *
  refine pick_second N0 fun o ho => ?_
  subst ho
  refine pick_head N0 fun l hl => ?_
  subst hl
  have hld : @Ne Nat d l := by have := (by assumption : d < l); exact Nat.ne_of_lt this
  refine TEnd.mk ?_
  refine while_F (h₀ := s.heap) (L := L') (fun n m news => ∃ (i : Nat) (acc : List Nat) (vs : List Value) (k : Nat), n = x.length - i ∧ i ≤ x.length ∧ IM m (Str.ofString "param_value") y l i ∧ m (Str.ofString "replacements") = some (.ref d) ∧ news = [(l, listOf vs.toArray k), (d, o)] ∧
    StrsAre vs (acc.map fun c => S [c]) ∧ vs.toArray.size ≤ i ∧ acc ++ rf (x.drop i) = rf x) (n₀ := x.length) (by assumption) (by assumption) ⟨0, [], [], 0, rfl, Nat.zero_le _, ⟨⟨_, rfl⟩, rfl, ⟨_, rfl⟩⟩, rfl, rfl, .nil, Nat.zero_le _, rfl⟩ ?_
  rintro n h tk m news htk2 ⟨i, acc, vs, k, rfl, hi, ⟨⟨u1, e1⟩, e2, ⟨u3, e3⟩⟩, e4, rfl, hvs, hsz, hub⟩ F1 N1
  have hsum : ((acc.map fun c => S [c]).map (·.length)).sum + (acc.map fun c => S [c]).length * (Str.ofString "").length ≤ 16777216 := by
    rw [sum_ones]
    have h1 := strsAre_length hvs
    have h2 : (Str.ofString "").length = 0 := by decide +kernel
    rw [h2]
    simp at h1 hsz ⊢
    omega
  have hgo : ∀ (j z : Nat) (v : Str) (tok : Tok) (k' : Nat) h' (tk' : Nat) m' (s0 : Shared), v = S [z] → i < j → j ≤ x.length → rf (x.drop i) = z :: rf (x.drop j) → Fr s.heap L' h' m' → News s.heap L' h' [(l, listOf (vs.toArray.push (.str v tok)) k'), (d, o)] →
      IM m' (Str.ofString "param_value") y l j → m' (Str.ofString "replacements") = some (.ref d) →
      TEnd (WEnd s.heap L' s0 (fun n m news => ∃ (i : Nat) (acc : List Nat) (vs : List Value) (k : Nat), n = x.length - i ∧ i ≤ x.length ∧ IM m (Str.ofString "param_value") y l i ∧ m (Str.ofString "replacements") = some (.ref d) ∧ news = [(l, listOf vs.toArray k), (d, o)] ∧
    StrsAre vs (acc.map fun c => S [c]) ∧ vs.toArray.size ≤ i ∧ acc ++ rf (x.drop i) = rf x) (x.length - i) .next { s0 with heap := h', toks := tk' }) := by
    intro j z v tok k' h' tk' m' s0 hv hij hj hu F1 N1 M1 M2
    refine WEnd.mk' (n' := x.length - j) F1 N1 (by omega) ⟨j, acc ++ [z], vs ++ [.str v tok], k', rfl, hj, M1, M2, by rw [List.push_toArray], ?_, ?_, ?_⟩
    · rw [hv, List.map_append]; exact strsAre_snoc _ _ hvs
    · simp at hsz ⊢; omega
    · rw [← hub, hu, List.append_assoc]; rfl
  have hitem : ∀ k : Nat, k < x.length → ∃ c, x[k]? = some c ∧ Txt.item y (k : Int) = S [c] := fun k hk => by
    refine ⟨x[k], List.getElem?_eq_getElem hk, ?_⟩
    rw [hy]
    exact item_S (List.getElem?_eq_getElem hk)
  have hpair : i ≤ x.length → Txt.slice y (some (i : Int)) (some ((i : Int) + 2)) = S ((x.drop i).take 2) := fun h => by rw [hy]; exact S_slice_two h
  k_steps
  · obtain ⟨c, hc, hit⟩ := hitem i (by omega)
    rename_i v0 hv0 _ hsome _ _ _
    rw [lk_is, hpair (by omega)] at hsome hv0
    have hd : ∃ d, x[i + 1]? = some d := by
      cases hd : x[i + 1]? with
      | some d => exact ⟨d, rfl⟩
      | none =>
        rw [drop_cons hc, List.drop_eq_nil_of_le (as := x) (i := i + 1) (by simpa using hd)] at hsome
        simp [lk3] at hsome
    obtain ⟨d', hd⟩ := hd
    rw [drop_cons hc, drop_cons hd] at hsome hv0
    simp only [List.take_succ_cons, List.take_zero] at hsome hv0
    have hil2 := (List.getElem?_eq_some_iff.mp hd).1
    have key : ∃ z, lk3 (S [c, d']) = some (.str (S [z])) ∧ (c = 94 ∧ (d' = 94 ∧ z = 94 ∨ d' = 110 ∧ z = 10 ∨ d' = 39 ∧ z = 34)) := by
      unfold lk3 at hsome ⊢
      by_cases h1 : S [94, 94] = S [c, d']
      · have := S_inj h1
        simp at this
        exact ⟨94, if_pos h1, this.1.symm, .inl ⟨this.2.symm, rfl⟩⟩
      · rw [if_neg h1] at hsome ⊢
        by_cases h2 : S [94, 110] = S [c, d']
        · have := S_inj h2
          simp at this
          exact ⟨10, if_pos h2, this.1.symm, .inr (.inl ⟨this.2.symm, rfl⟩)⟩
        · rw [if_neg h2] at hsome ⊢
          by_cases h3 : S [94, 39] = S [c, d']
          · have := S_inj h3
            simp at this
            exact ⟨34, if_pos h3, this.1.symm, .inr (.inr ⟨this.2.symm, rfl⟩)⟩
          · rw [if_neg h3] at hsome
            cases hsome
    obtain ⟨z, hz, hcd⟩ := key
    rw [hz] at hv0
    obtain ⟨t9, rfl⟩ := flat_str hv0
    exact hgo (i + 2) z _ _ _ _ _ _ _ rfl (by omega) (by omega) (rf_hit hc hd hcd) (by assumption : Fr s.heap L' _ (fun y1 => if y1 = Str.ofString "i" then _ else if y1 = Str.ofString "pair" then _ else m y1)) (by assumption) ⟨⟨_, e1⟩, e2, ⟨_, rfl⟩⟩ e4
  · obtain ⟨c, hc, hit⟩ := hitem i (by omega)
    rename_i v0 hv0 _ hsome _ _ _
    rw [lk_is, hpair (by omega)] at hsome hv0
    have hnone : lk3 (S ((x.drop i).take 2)) = none := by
      cases hq : lk3 (S ((x.drop i).take 2)) with
      | none => rfl
      | some _ => rw [hq] at hsome; cases hsome
    rw [hnone, hit] at hv0
    obtain ⟨t9, rfl⟩ := flat_str hv0
    exact hgo (i + 1) c _ _ _ _ _ _ _ rfl (by omega) (by omega) (rf_miss hc hnone) (by assumption : Fr s.heap L' _ (fun y1 => if y1 = Str.ofString "i" then _ else if y1 = Str.ofString "pair" then _ else m y1)) (by assumption) ⟨⟨_, e1⟩, e2, ⟨_, rfl⟩⟩ e4
  have hend : i = x.length := by omega
  subst hend
  rw [List.drop_length] at hub
  have hub' : acc = rf x := by rw [← hub]; simp [rf]
  rw [join_ones, hub']
  exact hret _ _ _ (Fr.keep (by assumption))
end Rfc
end Mine
end
/-! part Defk -/
section
theorem Mine.startDefk : True := by
  w_top off
  exact trivial
open PySem PySem.W PyProof.Rows PySem.Calls PySem.Spec
set_option Elab.async false
set_option maxRecDepth 100000
namespace Mine
section
variable {prog : Program} {w : World} {A : Around} {s : Shared} {h₀ : Heap} {L : Addr} {m : Str → Option Value} {news : List (Addr × Obj)} {K : Frag}
  {R : Result → Shared → Prop} {name qual : Str} {params : Arguments} {body : List Stmt} {scope : Scope} {dV kV doc pm cdv ct oc : Value} {an od : Option Addr} {osl : Array (Option Value)} {f : Addr} {args : Args} {binds : List (Str × Value)}
  {cl : List (Str × Addr)} {mean : ExcName → Option Value} {mg mb : Str → Option Value} {p : Program} {loose : List Str}

/-- the ground of a call: all that the ledger does not hold -/
theorem ground_k (F : Fr h₀ L s.heap m) (N : News h₀ L s.heap news) :
    Fr h₀ L (hideAll s.heap (news.map (·.1))) m ∧ h₀.StaysIn (hideAll s.heap (news.map (·.1))) ∧ ∀ v s', LeaveK h₀ L m (hideAll s.heap (news.map (·.1))) R v s' → R (.ok (.ret v)) s' := by
  have off : ∀ b o, h₀.get? b = some o → b ∉ news.map (·.1) := by
    intro b o e hb
    obtain ⟨q, hq, rfl⟩ := List.mem_map.mp hb
    have := (N q hq).2.2
    rw [e] at this; cases this
  have keep : h₀.StaysIn (hideAll s.heap (news.map (·.1))) := fun b o e => hideAll_get _ (F.keep b o e) (off b o e)
  have offL : L ∉ news.map (·.1) := by
    intro hb
    obtain ⟨q, hq, e⟩ := List.mem_map.mp hb
    exact (N q hq).2.1 e
  obtain ⟨ob, es, ep, e1, e2, e3, e4⟩ := F.ns
  have e5 := hideAll_get (news.map (·.1)) e1 offL
  refine ⟨⟨⟨ob, es, ep, e5, e2, e3, e4⟩, keep, F.above⟩, keep, ?_⟩
  rintro v s' ⟨L', m', news', F', N', k⟩
  refine k ⟨⟨ob, es, ep, F'.keep L ob e5, e2, e3, e4⟩, fun b o e => F'.keep b o (keep b o e), F.above⟩ ?_
  intro q hq
  refine ⟨(N' q hq).1, ?_, ?_⟩
  · intro e
    have := (N' q hq).2.2
    rw [e, e5] at this; cases this
  · cases hc : h₀.get? q.1 with
    | none => rfl
    | some o =>
      have := (N' q hq).2.2
      rw [keep _ _ hc] at this; cases this

/-- a call of a def that does not raise: from any caller, the ledger at hand -/
theorem def_k (F : Fr h₀ L s.heap m) (X₀ : K.In h₀) (N : News h₀ L s.heap news) (T : Top p loose mean mg mb h₀)
    (ho : K.lookup f = some ⟨oc, od, .func (fnX name qual params body scope cl dV kV doc pm an cdv ct), osl⟩) (hcd : codeIn K cdv qual = true) (hroom : A.depth < recursionLimit)
    (hbind : BindsTo s (fnX name qual params body scope cl dV kV doc pm an cdv ct) args binds) (hloc : ∀ y ∈ binds, scope.names.lookup y.1 = some .local)
    (h : ∀ g L' h₁ tk, s.toks + binds.length = tk → Fr h₀ L g m → Fr g L' h₁ (fun y => binds.reverse.lookup y) → News g L' h₁ news → K.In g → Top p loose mean mg mb g → (∀ q ∈ news, q.1 < L') →
      wpAny (model prog w) (A.deeper (envX qual scope L' f cdv cl)) (execs body (envX qual scope L' f cdv cl))
        (fun fl s' => LeaveK h₀ L m g R (match fl with | .ret v => v | _ => .none) s')
        (fun e s' => wpAny (model prog w) (A.deeper (envX qual scope L' f cdv cl)) (leaving (envX qual scope L' f cdv cl) e) (fun _ s'' => R (.error e) s'') (fun e' s'' => R (.error e') s'') s')
        { s with heap := h₁, toks := tk })
    (hco : scope.isCoroutine = false) (hgen : scope.isGenerator = false) (hk : scope.kind = .function)
    (hcell : ∀ x ∈ scope.names, x.2 ≠ .cell) : codeAny (model prog w) A (.call (.ref f) args) R s := by
  obtain ⟨FG, st, lv⟩ := ground_k (R := R) F N
  refine codeAny_call_def (fd := fnX name qual params body scope cl dV kV doc pm an cdv ct) (body := body) (binds := binds) hroom ((X₀.keeps F.keep) _ _ ho) rfl (T.nolimit.keeps F.keep) (codeRec_of (X₀.keeps F.keep) hcd) rfl hbind hcell hloc (fun h₁ hns hk₁ => ?_) hco hgen hk
  exact wpAny_mono (h _ s.heap.objs.size h₁ _ rfl FG ⟨hns, fun b o e => hk₁ b o (of_hideAll _ e), Nat.le_of_eq (hideAll_size _ _)⟩
    (fun q hq => ⟨hk₁ _ _ (N q hq).1, Nat.ne_of_lt (Heap.lt_size (N q hq).1), hideAll_none _ (List.mem_map_of_mem hq)⟩) (X₀.keeps st) (T.keeps st) fun q hq => Heap.lt_size (N q hq).1) (fun _ _ hl => lv _ _ hl) fun _ _ y => y
end

section Lists
variable {prog : Program} {w : World} {A : Around} {E : Value → Shared → Prop} {s : Shared} {h₀ : Heap} {L D b : Addr} {m : Str → Option Value} {news : List (Addr × Obj)} {its its2 : Array Value} {n n2 : Nat} {g : Obj → List (Addr × Obj)} {Q : Value → Shared → Prop}
theorem turn_l (F : Fr h₀ L s.heap m) (N : News h₀ L s.heap news) (U : UpdF D (listOf its n) news g) (f : Array Value → Array Value) :
    Fr h₀ L (s.heap.update D (Obj.mapSeq f)) m ∧ ∃ n', News h₀ L (s.heap.update D (Obj.mapSeq f)) (g (listOf (f its) n')) := by
  obtain ⟨pre, post, rfl, hg, h1, h2⟩ := U.split
  have z := N (D, listOf its n) (List.mem_append.mpr (.inr (.head _)))
  have q := PySem.IsL.update z.1 f
  refine ⟨F.change (Heap.SameBut.update ..) z.2.1 z.2.2, (if (f its).size == its.size then n else n + 1), ?_⟩
  rw [hg]
  exact News.setAt N h1 h2 (Heap.SameBut.update ..) q
theorem updF_mem {d : Addr} {o : Obj} {l : List (Addr × Obj)} (U : UpdF d o l g) : (d, o) ∈ l := by
  obtain ⟨pre, post, rfl, _, _, _⟩ := U.split
  simp
theorem truthy_l {Q : Bool → Shared → Prop} (N : News h₀ L s.heap news) (hm : (D, listOf its n) ∈ news) (hs : its.size ≤ 4000) (h : Q (!its.isEmpty) { s with toks := s.toks + 1 + 1 }) : wpAny (model prog w) A (truthy (.ref D)) Q E s :=
  wpAny_truthy_list (N.isList hm) (by omega) h
theorem extend_l (F : Fr h₀ L s.heap m) (N : News h₀ L s.heap news) (U : UpdF D (listOf its n) news g) (hm : (b, listOf its2 n2) ∈ news) (hs1 : its.size ≤ 4000) (hs2 : its2.size ≤ 4000)
    (h : ∀ h' n', Fr h₀ L h' m → News h₀ L h' (g (listOf (its ++ its2) n')) → Q .none { s with heap := h' }) : wpAny (model prog w) A (call (.builtin "list.extend") [.ref D, .ref b]) Q E s := by
  have z := N _ (updF_mem U)
  obtain ⟨F', n', N'⟩ := turn_l F N U fun x => x ++ its2
  have e := PySem.sizeLine_eq
  refine call_meets PySem.F.slot_list_extend ⟨_, z.1, rfl⟩ PySem.F.entry_list_extend (PySem.F.args_list_extend_2 _ _) (PySem.AutoSeq1.list_extend_list_list_0 D its n b its2 n2 ?_ (by omega) (by omega)) ⟨z.1, (N _ hm).1, h _ _ F' N'⟩
  have : Builtin.List.listTooLong (its.size + its2.size) = false := by
    unfold Builtin.List.listTooLong
    first | (exact decide_eq_false (by omega)) | (simp; omega)
  rw [this, Bool.and_false]
  exact Bool.false_ne_true
theorem clear_l (F : Fr h₀ L s.heap m) (N : News h₀ L s.heap news) (U : UpdF D (listOf its n) news g) (hs1 : its.size ≤ 4000)
    (h : ∀ h' n', Fr h₀ L h' m → News h₀ L h' (g (listOf #[] n')) → Q .none { s with heap := h' }) : wpAny (model prog w) A (call (.builtin "list.clear") [.ref D]) Q E s := by
  have z := N _ (updF_mem U)
  obtain ⟨F', n', N'⟩ := turn_l F N U fun _ => #[]
  have e := PySem.sizeLine_eq
  exact call_meets PySem.F.slot_list_clear ⟨_, z.1, rfl⟩ PySem.F.entry_list_clear (PySem.F.args_list_clear_1 _) (PySem.AutoSeq1.list_clear_list_0 D its n (by omega)) ⟨z.1, h _ _ F' N'⟩
end Lists

section Flush
local macro_rules | `(tactic| walk_at "truthy ref") => `(tactic| (k_here; (with_reducible show wpAny _ _ (truthy (Value.ref _)) _ _ _); k_dflt (refine' truthy_l ?a ?b ?c ?_; (case a => k_asm); (case b => k_mem); (case c => assumption); k_whole)))
local macro_rules | `(tactic| walk_at "call builtin:list.extend") => `(tactic| (k_here; (with_reducible show wpAny _ _ (call (Value.builtin _) [Value.ref _, Value.ref _]) _ _ _); k_dflt (refine' extend_l ?F ?N ?U ?b ?c ?d ?_; (case F => k_asm); (case N => k_asm); (case U => k_updF); (case b => k_mem); (case c => assumption); (case d => assumption); k_whole); intro h' n' F' N'; (try dsimp only at N')))
local macro_rules | `(tactic| walk_at "call builtin:list.clear") => `(tactic| (k_here; (with_reducible show wpAny _ _ (call (Value.builtin _) [Value.ref _]) _ _ _); k_dflt (refine' clear_l ?F ?N ?U ?c ?_; (case F => k_asm); (case N => k_asm); (case U => k_updF); (case c => assumption); k_whole); intro h' n' F' N'; (try dsimp only at N')))
local macro_rules | `(tactic| k_room) => `(tactic| ktr_room)
local macro_rules | `(tactic| k_units) => `(tactic| ktr_units)
local macro_rules | `(tactic| k_all) => `(tactic| assumption)
set_option pp.deepTerms false
set_option pp.maxSteps 3000
set_option maxRecDepth 100000 in
set_option maxHeartbeats 4000000 in
theorem flush_w {w : World} {mean : ExcName → Option Value} {mg mb : Str → Option Value} {A : Around} {s : Shared} {Q E : Value → Shared → Prop} {h₀ : Heap} {L : Addr} {m : Str → Option Value} {o p : Addr} {vs ws : List Value} {n1 n2 : Nat} {b : Bool} {R : List (Addr × Obj)}
    (F : Fr h₀ L s.heap m) (X : (K0 w.params).In h₀) (N : News h₀ L s.heap ((o, listOf vs.toArray n1) :: (p, listOf ws.toArray n2) :: R)) (T : Top hd.view_39 loos mean mg mb h₀) (hd1 : A.depth < recursionLimit)
    (hop : @Ne Nat p o) (hRo : ∀ q ∈ R, q.1 ≠ o) (hRp : ∀ q ∈ R, q.1 ≠ p) (hv : vs.toArray.size ≤ 4000) (hw : ws.toArray.size ≤ 4000)
    (hret : ∀ h' tk' n1' n2', Fr h₀ L h' m → News h₀ L h' ((o, listOf (if ws.isEmpty || b then vs else vs ++ ws).toArray n1') :: (p, listOf #[] n2') :: R) → Q .none { s with heap := h', toks := tk' }) :
    wpAny (model PySem.Challenge.rw_bl0007_01.row.prog w) A (call (.ref 315) [.ref o, .ref p, .bool b]) Q E s := by
  revert X; k_fill; intro X
  refine wpAny_call ?_
  refine' def_k (binds := [(Str.ofString "out", .ref o), (Str.ofString "pending_ws", .ref p), (Str.ofString "last_was_delimiter", .bool b)]) F X N T ?ho ?hcd ?hroom ?hb ?hl ?_ ?c2 ?c3 ?c4 ?c5
  case ho => k_is
  case hcd => k_is
  case hroom => omega
  case hb => exact BindsTo.of_eq rfl
  case hl => exact locs rfl
  case c2 => rfl
  case c3 => rfl
  case c4 => rfl
  case c5 => decide
  intro g L' h₁ tk0 htk FG F' N' X' T' hlt
  dsimp only
  k_steps
  · have hws : ws = [] := by
      have := (by assumption : ws.toArray.isEmpty = true)
      simpa using this
    subst hws
    exact hret _ _ n1 n2 (by assumption) (by assumption)
  · have hws : ws.isEmpty = false := by
      have := (by assumption : ws.toArray.isEmpty = false)
      simpa using this
    have hb : b = true := by assumption
    subst hb
    simp only [Bool.or_true, if_true] at hret
    exact hret _ _ _ _ (by assumption) (by assumption)
  · have hws : ws.isEmpty = false := by
      have := (by assumption : ws.toArray.isEmpty = false)
      simpa using this
    have hb : b = false := by assumption
    subst hb
    rw [hws] at hret
    simp only [Bool.or_self, Bool.false_eq_true, if_false, ← List.append_toArray] at hret
    exact hret _ _ _ _ (by assumption) (by assumption)
end Flush
end Mine
end
/-! part Forr -/
section
theorem Mine.startForr : True := by
  w_top off
  exact trivial
local macro_rules | `(tactic| walk_at "pad0") => `(tactic| skip)
local macro_rules | `(tactic| walk_at "pad1") => `(tactic| skip)
local macro_rules | `(tactic| walk_at "pad2") => `(tactic| skip)
local macro_rules | `(tactic| walk_at "pad3") => `(tactic| skip)
open PySem PySem.W PyProof.Rows PySem.Calls PySem.Spec
set_option Elab.async false
namespace Mine
section
variable {prog : Program} {w : World} {A : Around} {E : Value → Shared → Prop} {s : Shared} {env : Env} {h₀ : Heap} {L : Addr} {Q : Flow → Shared → Prop}

/-- the end of a for loop's turn -/
def FEnd (h₀ : Heap) (L : Addr) (s : Shared) (Q : Flow → Shared → Prop) (I : Addr) (oI : Obj) (J : (Str → Option Value) → List (Addr × Obj) → Prop) (f : Flow) (s' : Shared) : Prop :=
  match f with
  | .brk => Q .next s'
  | .ret v => Q (.ret v) s'
  | _ => ∃ h tk m news, s' = { s with heap := h, toks := tk } ∧ Fr h₀ L h m ∧ News h₀ L h ((I, oI) :: news) ∧ (∀ p ∈ news, p.1 ≠ I) ∧ J m news
def FCore (h₀ : Heap) (L : Addr) (s : Shared) (I : Addr) (oI : Obj) (J : (Str → Option Value) → List (Addr × Obj) → Prop) (s' : Shared) : Prop :=
  ∃ h tk m news, s' = { s with heap := h, toks := tk } ∧ Fr h₀ L h m ∧ News h₀ L h ((I, oI) :: news) ∧ (∀ p ∈ news, p.1 ≠ I) ∧ J m news
theorem FEnd.of {I : Addr} {oI : Obj} {J : (Str → Option Value) → List (Addr × Obj) → Prop} {s' : Shared} (h : FCore h₀ L s I oI J s') : TEnd (FEnd h₀ L s Q I oI J .next s') := ⟨h⟩
theorem FEnd.ofc {I : Addr} {oI : Obj} {J : (Str → Option Value) → List (Addr × Obj) → Prop} {s' : Shared} (h : FCore h₀ L s I oI J s') : TEnd (FEnd h₀ L s Q I oI J .cont s') := ⟨h⟩
theorem FEnd.next {I : Addr} {oI : Obj} {J : (Str → Option Value) → List (Addr × Obj) → Prop} {h : Heap} {tk : Nat} {m : Str → Option Value} {news : List (Addr × Obj)} (F : Fr h₀ L h m) (N : News h₀ L h ((I, oI) :: news)) (hn : ∀ p ∈ news, p.1 ≠ I) (hJ : J m news) :
    TEnd (FEnd h₀ L s Q I oI J .next { s with heap := h, toks := tk }) := ⟨h, tk, m, news, rfl, F, N, hn, hJ⟩
theorem FEnd.cont {I : Addr} {oI : Obj} {J : (Str → Option Value) → List (Addr × Obj) → Prop} {h : Heap} {tk : Nat} {m : Str → Option Value} {news : List (Addr × Obj)} (F : Fr h₀ L h m) (N : News h₀ L h ((I, oI) :: news)) (hn : ∀ p ∈ news, p.1 ≠ I) (hJ : J m news) :
    TEnd (FEnd h₀ L s Q I oI J .cont { s with heap := h, toks := tk }) := ⟨h, tk, m, news, rfl, F, N, hn, hJ⟩

theorem for_walk {x : Str} {px : Pos} {body : List Stmt} {I : Addr} {n : Nat} {P : Nat → Value → Prop} {St : Nat → Heap → Prop} {m₀ : Str → Option Value} {news₀ : List (Addr × Obj)} (W : Walks prog w A I [I] [I] n P St) (hsome : ∀ i h, St i h → ∃ o, h.get? I = some o)
    (hL : env.locals = L) (hx : env.kindOf x = some .local) (hp : (env.scope.kind == .class || (env.scope.kind == .module && env.locals != env.globals)) = false)
    (J : Nat → (Str → Option Value) → List (Addr × Obj) → Prop) (hst : St 0 s.heap) (hIL : I ≠ L) (hI0 : h₀.get? I = none) (F : Fr h₀ L s.heap m₀) (N : News h₀ L s.heap news₀) (hIn : ∀ p ∈ news₀, p.1 ≠ I) (hJ : J 0 m₀ news₀)
    (turn : ∀ i v h tk m news oI, s.toks ≤ tk → i < n → P i v → J i m news → Fr h₀ L h (fun y => if y = x then some v else m y) → News h₀ L h ((I, oI) :: news) → (∀ p ∈ news, p.1 ≠ I) →
      wpAny (model prog w) A (execs body env) (fun f s' => TEnd (FEnd h₀ L s Q I oI (J (i + 1)) f s')) (notedBy (model prog w) A env fun e s' => cameBackBy (model prog w) A env E e s') { s with heap := h, toks := tk })
    (done : ∀ h tk m news, s.toks ≤ tk → J n m news → Fr h₀ L h m → News h₀ L h news → Q .next { s with heap := h, toks := tk }) :
    codeAny (model prog w) A (.forLoop (.Name x px) (.ref I) body [] env) (fun r s' => match r with | .ok f => Q f s' | .error e => cameBackBy (model prog w) A env E e s') s := by
  subst hL
  refine codeAny_forLoop_any (fun k s' => s.toks ≤ s'.toks ∧ ∃ i h tk m news, k = n - i ∧ i ≤ n ∧ s' = { s with heap := h, toks := tk } ∧ St i h ∧ Fr h₀ env.locals h m ∧ News h₀ env.locals h news ∧ (∀ p ∈ news, p.1 ≠ I) ∧ J i m news) ?_ n
    ⟨Nat.le_refl _, 0, s.heap, s.toks, m₀, news₀, rfl, Nat.zero_le _, rfl, hst, F, N, hIn, hJ⟩
  rintro k _ ⟨ht, i, h, tk, m, news, rfl, hi, rfl, st, F', N', hn, hJ'⟩
  have keepF : ∀ {h' : Heap}, (∀ b o, b ∉ [I] → h.get? b = some o → h'.get? b = some o) → Fr h₀ env.locals h' m := fun {h'} hk => by
    obtain ⟨ob, es, ep, e1, e2⟩ := F'.ns
    refine ⟨⟨ob, es, ep, hk _ _ (by simpa using Ne.symm hIL) e1, e2⟩, fun b o e => hk _ _ ?_ (F'.keep b o e), F'.above⟩
    intro hb
    rw [List.mem_singleton.mp hb, hI0] at e; cases e
  have keepN : ∀ {h' : Heap}, (∀ b o, b ∉ [I] → h.get? b = some o → h'.get? b = some o) → News h₀ env.locals h' news := fun {h'} hk p hp => ⟨hk _ _ (by simpa using hn p hp) (N' p hp).1, (N' p hp).2⟩
  by_cases hin : i < n
  · refine wpAny_with_toks ht (W.item i _ _ _ hin st fun v h' tk' hP st' hk htk => ?_)
    dsimp only
    refine wpAny_of_eq (rfl : letOwnedTupleGo (.Name x px) (.ref I) v = pure ()) ?_
    have F2 := keepF hk
    have N2 := keepN hk
    refine wpAny_with_toks htk (wpAny_assign_Name (wpAny_storeName_local hx F2.ns (fun h₂ hn₂ hs₂ => ?_) hp))
    intro htk2
    have F3 := F2.set hn₂ hs₂
    have N3 := N2.set hs₂
    have st2 : St (i + 1) h₂ := W.frame _ _ _ st' fun b hb o e => (hs₂.2 b (by rw [List.mem_singleton.mp hb]; exact hIL)).trans e
    -- the iterator's object
    cases hoI : h₂.get? I with
    | none =>
      obtain ⟨o, ho⟩ := hsome _ _ st2
      rw [hoI] at ho; cases ho
    | some oI =>
      have N4 : News h₀ env.locals h₂ ((I, oI) :: news) := fun p hp => by
        rcases List.mem_cons.mp hp with rfl | hp
        · exact ⟨hoI, hIL, hI0⟩
        · exact N3 p hp
      refine wpAny_with_toks htk2 (wpAny_mono (turn i v h₂ _ m news oI htk2 hin hP hJ' F3 N4 hn) (fun f s₃ hf ht3 => ?_) fun _ _ e _ => e)
      have hf := hf.out
      unfold FEnd at hf
      cases f with
      | brk => exact hf
      | ret v => exact hf
      | next =>
        obtain ⟨h3, tk3, m3, news3, rfl, F5, N5, hn5, J5⟩ := hf
        exact ⟨n - (i + 1), by omega, ht3, i + 1, h3, tk3, m3, news3, rfl, hin, rfl, W.frame _ _ _ st2 (fun b hb o e => by rw [List.mem_singleton.mp hb] at e ⊢; rw [hoI] at e; cases e; exact (N5 _ (.head _)).1), F5, fun p hp => N5 p (.tail _ hp), hn5, J5⟩
      | cont =>
        obtain ⟨h3, tk3, m3, news3, rfl, F5, N5, hn5, J5⟩ := hf
        exact ⟨n - (i + 1), by omega, ht3, i + 1, h3, tk3, m3, news3, rfl, hin, rfl, W.frame _ _ _ st2 (fun b hb o e => by rw [List.mem_singleton.mp hb] at e ⊢; rw [hoI] at e; cases e; exact (N5 _ (.head _)).1), F5, fun p hp => N5 p (.tail _ hp), hn5, J5⟩
  · have : i = n := by omega
    subst this
    refine wpAny_with_toks ht (W.done _ _ _ st fun h' tk' hk htk => ?_)
    dsimp only
    exact wpAny_execs_nil (done h' tk' m news htk hJ' (keepF hk) (keepN hk))

/-- for c in x: a text -/
theorem for_str {x tgt nm : Str} {t : Tok} {px pn pos : Pos} {body : List Stmt} {m₀ : Str → Option Value} {news₀ : List (Addr × Obj)} (hh : A.handled = none)
    (hL : env.locals = L) (hx : env.kindOf tgt = some .local) (hp : (env.scope.kind == .class || (env.scope.kind == .module && env.locals != env.globals)) = false)
    (J : Nat → (Str → Option Value) → List (Addr × Obj) → Prop) (F : Fr h₀ L s.heap m₀) (N : News h₀ L s.heap news₀) (hJ : J 0 m₀ news₀)
    (hread : wpAny (model prog w) A (eval (.Name nm pn) env) (fun v s' => v = .str x t ∧ s' = s) E s)
    (turn : ∀ i c tok h tk m news I oI, s.toks ≤ tk → x.cps[i]? = some c → J i m news → Fr h₀ L h (fun y => if y = tgt then some (.str (S [c]) tok) else m y) → News h₀ L h ((I, oI) :: news) → (∀ p ∈ news, p.1 ≠ I) →
      wpAny (model prog w) A (execs body env) (fun f s' => TEnd (FEnd h₀ L s Q I oI (J (i + 1)) f s')) (notedBy (model prog w) A env fun e s' => cameBackBy (model prog w) A env E e s') { s with heap := h, toks := tk })
    (done : ∀ h tk m news, s.toks ≤ tk → J x.cps.size m news → Fr h₀ L h m → News h₀ L h news → Q .next { s with heap := h, toks := tk })
    (hs : ∀ v, foldedSetIterable (.Name nm pn) env v = pure v) :
    wpAny (model prog w) A (exec (.For (.Name tgt px) (.Name nm pn) body [] pos) env) Q E s := by
  refine wpAny_For (wpAny_mono hread (fun v s' hv => ?_) fun _ _ e => e) hs
  obtain ⟨rfl, rfl⟩ := hv
  have hI0 : h₀.get? s'.heap.objs.size = none := by
    cases hc : h₀.get? s'.heap.objs.size with
    | none => rfl
    | some o => exact absurd (Heap.lt_size (F.keep _ _ hc)) (Nat.lt_irrefl _)
  have hIL : (s'.heap.objs.size : Addr) ≠ L := Nat.ne_of_gt (F.ns.lt)
  have go : ∀ (o : Obj) (St : Nat → Heap → Prop), (∀ A' : Around, A'.handled = none → Walks prog w A' s'.heap.objs.size [s'.heap.objs.size] [s'.heap.objs.size] x.cps.size (SignAt x) St) → (∀ i h, St i h → ∃ o, h.get? s'.heap.objs.size = some o) → St 0 (s'.heap.push o) →
      codeAny (model prog w) A (.forLoop (.Name tgt px) (.ref s'.heap.objs.size) body [] env) (fun r s' => match r with | .ok f => Q f s' | .error e => cameBackBy (model prog w) A env E e s') { s' with heap := s'.heap.push o } := by
    intro o St W hsome st
    refine for_walk (s := { s' with heap := s'.heap.push o }) (W A hh) hsome hL hx hp J st hIL hI0 (F.push o) (N.pushKeep o) (fun p hp => Nat.ne_of_lt (Heap.lt_size (N p hp).1)) hJ ?_ done
    rintro i v h tk m news oI htk hin ⟨c, u, hc, rfl⟩ hJ1 F1 N1 hn1
    exact turn i c u h tk m news _ oI htk hc hJ1 F1 N1 hn1
  cases ha : x.cps.all (· < 128)
  · exact wpAny_pyIter_wide ha (go _ _ (fun A' hA => Walks.strWide hA _ x t) (fun _ _ st => let ⟨o, ho, _⟩ := st; ⟨o, ho⟩) ⟨_, Heap.get?_push_size _ rfl, rfl, rfl⟩)
  · exact wpAny_pyIter_ascii ha (go _ _ (fun A' hA => Walks.strAscii hA _ x t) (fun _ _ st => let ⟨o, ho, _⟩ := st; ⟨o, ho⟩) ⟨_, Heap.get?_push_size _ rfl, rfl, rfl⟩)
end
end Mine
end
/-! part Lst -/
section
theorem Mine.startLst : True := by
  w_top off
  exact trivial
open PySem PySem.W PyProof.Rows PySem.Calls PySem.Spec
set_option Elab.async false
namespace Mine
theorem snoc_of {α : Type} : ∀ {l : List α}, l ≠ [] → ∃ r z, l = r ++ [z]
  | [], h => absurd rfl h
  | [a], _ => ⟨[], a, rfl⟩
  | a :: b :: l, _ => let ⟨r, z, e⟩ := snoc_of (l := b :: l) (by simp); ⟨a :: r, z, by rw [e]; rfl⟩
theorem strs_snoc : ∀ {vs : List Value} {r : List Str} {z : Str}, StrsAre vs (r ++ [z]) → ∃ ws t, vs = ws ++ [.str z t] ∧ StrsAre ws r ∧ ws.length = r.length
  | _, [], _, h => by cases h with | cons y t h => cases h; exact ⟨[], t, rfl, .nil, rfl⟩
  | _, a :: r, _, h => by
    cases h with
    | cons y t h =>
      obtain ⟨ws, t', e, h', hl⟩ := strs_snoc h
      exact ⟨.str a t :: ws, t', by rw [e]; rfl, .cons a t h', by simp [hl]⟩
section
variable {prog : Program} {w : World} {A : Around} {E : Value → Shared → Prop} {s : Shared} {h₀ : Heap} {L D : Addr} {m : Str → Option Value} {news : List (Addr × Obj)} {n : Nat} {Q : Value → Shared → Prop}
/-- the last text of a list -/
theorem last_item {value slice : Expr} {vs : List Value} {l : List Nat} {u : Tok} (N : News h₀ L s.heap news) (hm : (D, listOf vs.toArray n) ∈ news) (hst : StrsAre vs (l.map fun c => S [c])) (hne : vs.toArray.isEmpty = false)
    (h : ∀ r z t, l = r ++ [z] → Q (.str (S [z]) t) s)
    (hs : subscripted slice false (.ref D) (.int (-1) u) = operate [.ref D, .int (-1) u] (getItem (.ref D) (.int (-1) u)) := by with_unfolding_all rfl) :
    wpAny (model prog w) A (subscriptTail value slice (.ref D) (.int (-1) u)) Q E s := by
  have hl : s.heap.IsList D vs.toArray := N.isList hm
  have hne2 : l ≠ [] := by
    rintro rfl
    cases hst
    simp at hne
  obtain ⟨r, z, rfl⟩ := snoc_of hne2
  rw [List.map_append] at hst
  obtain ⟨ws, t, rfl, hw, hlen⟩ := strs_snoc hst
  refine tail_any hl.typeIs slot_list_getitem.lookup (wpAny_getItem_list_neg (x := .str (S [z]) t) hl (by decide) ?_ (by decide) ?_ (h r z t rfl)) hs
  · simp; omega
  · have e : ((-1 : Int) + ((ws ++ [Value.str (S [z]) t]).toArray.size : Nat)).toNat = ws.length := by simp; omega
    rw [e]
    simp
theorem pop_strs {vs : List Value} {l : List Nat} {rest : List (Addr × Obj)} (F : Fr h₀ L s.heap m) (N : News h₀ L s.heap ((D, listOf vs.toArray n) :: rest)) (hr : ∀ q ∈ rest, q.1 ≠ D) (hst : StrsAre vs (l.map fun c => S [c])) (hne : vs.toArray.isEmpty = false) (hsz : vs.toArray.size ≤ 4000)
    (h : ∀ h' r z t ws, l = r ++ [z] → StrsAre ws (r.map fun c => S [c]) → ws.toArray.size ≤ 4000 → Fr h₀ L h' m → News h₀ L h' ((D, listOf ws.toArray (n + 1)) :: rest) → Q (.str (S [z]) t) { s with heap := h' }) :
    wpAny (model prog w) A (call (.builtin "list.pop") [.ref D]) Q E s := by
  have hne2 : l ≠ [] := by
    rintro rfl
    cases hst
    simp at hne
  obtain ⟨r, z, rfl⟩ := snoc_of hne2
  rw [List.map_append] at hst
  obtain ⟨ws, t, rfl, hw, hlen⟩ := strs_snoc hst
  have e := PySem.sizeLine_eq
  refine kl_pop F N (p := ws) (y := .str (S [z]) t) ?_ (.head hr) (by simp at hsz ⊢; omega) fun h' F' N' => h h' r z t ws rfl hw (by simp at hsz ⊢; omega) F' N'
  have := kpa_last (.str (S [z]) t) ws
  simpa using this
theorem join_codes {vs : List Value} {l : List Nat} {t : Tok} (N : News h₀ L s.heap news) (hm : (D, listOf vs.toArray n) ∈ news) (hst : StrsAre vs (l.map fun c => S [c])) (hl : l.length ≤ 4000)
    (h : ∀ t' tk' z, z = S l → z.length ≤ 4000 → s.toks ≤ tk' → Q (.str z t') { s with toks := tk' }) : wpAny (model prog w) A (call (.builtin "str.join") [.str (Str.ofString "") t, .ref D]) Q E s := by
  refine wpAny_with_toks (Nat.le_refl s.toks) (join_list (N.isList hm) hst ?_ fun t' k hk => ?_)
  · rw [sum_ones]
    have h2 : (Str.ofString "").length = 0 := by decide +kernel
    rw [h2]; omega
  · rw [join_ones]
    exact h t' k _ rfl (by rw [S_len]; exact hl) hk
end
section
variable {M : Model} {A : Around} {E : Value → Shared → Prop} {s : Shared} {env : Env} {h₀ : Heap} {L : Addr} {Q : Flow → Shared → Prop}
/-- a statement that goes on or returns -/
def Mid2 (h₀ : Heap) (L : Addr) (s : Shared) (Q : Flow → Shared → Prop) (P : (Str → Option Value) → List (Addr × Obj) → Prop) (f : Flow) (s' : Shared) : Prop :=
  (f = .next ∧ s.toks ≤ s.toks ∧ Mid h₀ L s P s') ∨ ∃ v, f = .ret v ∧ Q (.ret v) s'
theorem mid2_next {h' : Heap} {tk' : Nat} {m' : Str → Option Value} {news' : List (Addr × Obj)} {P : (Str → Option Value) → List (Addr × Obj) → Prop}
    (F : Fr h₀ L h' m') (N : News h₀ L h' news') (p : P m' news') : TEnd (Mid2 h₀ L s Q P .next { s with heap := h', toks := tk' }) := ⟨.inl ⟨rfl, Nat.le_refl _, h', tk', m', news', rfl, F, N, p⟩⟩
theorem mid2_ret {v : Value} {s' : Shared} {P : (Str → Option Value) → List (Addr × Obj) → Prop} (h : Q (.ret v) s') : TEnd (Mid2 h₀ L s Q P (.ret v) s') := ⟨.inr ⟨v, rfl, h⟩⟩
theorem execs_cut2 {st : Stmt} {rest : List Stmt} (P : (Str → Option Value) → List (Addr × Obj) → Prop)
    (h1 : wpAny M A (exec st env) (fun f s' => TEnd (Mid2 h₀ L s Q P f s')) E s)
    (h2 : ∀ h' tk' m' news', s.toks ≤ tk' → Fr h₀ L h' m' → News h₀ L h' news' → P m' news' → wpAny M A (execs rest env) Q E { s with heap := h', toks := tk' }) :
    wpAny M A (execs (st :: rest) env) Q E s := by
  refine wpAny_with_toks (Nat.le_refl s.toks) (wpAny_execs_cons (wpAny_with_toks (Nat.le_refl s.toks) (wpAny_mono h1 (fun f s' h ht => ?_) fun _ _ x _ _ => x)))
  rcases h.out with ⟨rfl, _, h', tk', m', news', rfl, F', N', p⟩ | ⟨v, rfl, hq⟩
  · exact wpAny_mono (h2 h' tk' m' news' ht F' N' p) (fun _ _ x _ => x) fun _ _ x _ => x
  · exact fun _ => hq
end
end Mine
end
/-! part Strip -/
section
theorem Mine.startStrip : True := by
  w_top off
  exact trivial
local macro_rules | `(tactic| walk_at "pad0") => `(tactic| skip)
local macro_rules | `(tactic| walk_at "pad1") => `(tactic| skip)
local macro_rules | `(tactic| walk_at "pad2") => `(tactic| skip)
local macro_rules | `(tactic| walk_at "pad3") => `(tactic| skip)
local macro_rules | `(tactic| walk_at "pad4") => `(tactic| skip)
open PySem PySem.W PyProof.Rows PySem.Calls PySem.Spec
set_option Elab.async false
namespace Mine
section Strip
local macro_rules | `(tactic| k_room) => `(tactic| ktr_room)
local macro_rules | `(tactic| k_units) => `(tactic| ktr_units)
local macro_rules | `(tactic| k_all) => `(tactic| assumption)
local macro_rules | `(tactic| walk_at "truthy ref") => `(tactic| (k_here; (with_reducible show wpAny _ _ (truthy (Value.ref _)) _ _ _); k_dflt (refine' truthy_l ?a ?b ?c ?_; (case a => k_asm); (case b => k_mem); (case c => first | assumption | omega); k_whole)))
local macro_rules | `(tactic| walk_at "call builtin:list.extend") => `(tactic| (k_here; (with_reducible show wpAny _ _ (call (Value.builtin _) [Value.ref _, Value.ref _]) _ _ _); k_dflt (refine' extend_l ?F ?N ?U ?b ?c ?d ?_; (case F => k_asm); (case N => k_asm); (case U => k_updF); (case b => k_mem); (case c => first | assumption | omega); (case d => first | assumption | omega); k_whole); intro h' n' F' N'; (try dsimp only at N')))
local macro_rules | `(tactic| walk_at "call builtin:list.clear") => `(tactic| (k_here; (with_reducible show wpAny _ _ (call (Value.builtin _) [Value.ref _]) _ _ _); k_dflt (refine' clear_l ?F ?N ?U ?c ?_; (case F => k_asm); (case N => k_asm); (case U => k_updF); (case c => first | assumption | omega); k_whole); intro h' n' F' N'; (try dsimp only at N')))
local macro_rules | `(tactic| walk_at "eval Name") => `(tactic| (k_here; k_dflt (first
  | (refine' ld ?k1 ?k2 ?_; (case k1 => k_asm); (case k2 => first | exact rfl | assumption); k_whole)
  | (refine' nameX_L ?F ?v ?_ ?a ?b; (case F => k_asm); (case a => rfl); (case b => rfl); (case v => first | exact rfl | assumption); k_whole))))
local macro_rules | `(tactic| walk_at "loadName") => `(tactic| (k_here; k_dflt (refine' ldn ?k1 ?k2 ?_; (case k1 => k_asm); (case k2 => first | exact rfl | assumption); k_whole)))
local macro_rules | `(tactic| walk_at "exec While BoolOp") => `(tactic| refine TEnd.out ?_)
local macro_rules | `(tactic| walk_at "exec For Name Name cons nil") => `(tactic| refine TEnd.out ?_)

def ows (c : Nat) : Bool := c == 32 || c == 9
/-- the state of the strip: out, the blanks at hand, in quotes, behind a delimiter -/
structure SS where
  out : List Nat
  pend : List Nat
  inq : Bool
  last : Bool
def flushP (s : SS) : List Nat := if s.pend.isEmpty || s.last then s.out else s.out ++ s.pend
def trimR (l : List Nat) : List Nat := (l.reverse.dropWhile ows).reverse
def finS (s : SS) : List Nat := if s.pend.isEmpty || s.last then s.out else s.out ++ s.pend
theorem trimR_snoc (r : List Nat) (z : Nat) : trimR (r ++ [z]) = if ows z = true then trimR r else r ++ [z] := by
  unfold trimR
  rw [List.reverse_append]
  simp only [List.reverse_cons, List.reverse_nil, List.nil_append, List.singleton_append, List.dropWhile_cons]
  split <;> simp
def sstep (s : SS) (c : Nat) : SS :=
  if c = 34 then ⟨flushP s ++ [c], [], !s.inq, false⟩
  else if s.inq = false ∧ ows c = true then { s with pend := s.pend ++ [c] }
  else if s.inq = false ∧ (c = 59 ∨ c = 61) then ⟨trimR s.out ++ [c], [], s.inq, true⟩
  else ⟨flushP s ++ [c], [], s.inq, false⟩


/-- what the strip gives -/
noncomputable def stripF (x : List Nat) : Str := if x.any ows = true then Txt.strip (S (finS (x.foldl sstep ⟨[], [], false, false⟩))) else S x
theorem flush_k {w : World} {mean : ExcName → Option Value} {mg mb : Str → Option Value} {A : Around} {s : Shared} {Q E : Value → Shared → Prop} {h₀ : Heap} {L : Addr} {m : Str → Option Value} {o p I : Addr} {oI : Obj} {vs ws : List Value} {n1 n2 : Nat} {b : Bool}
    (F : Fr h₀ L s.heap m) (X : (K0 w.params).In h₀) (N : News h₀ L s.heap [(o, listOf vs.toArray n1), (p, listOf ws.toArray n2), (I, oI)]) (T : Top hd.view_39 loos mean mg mb h₀) (hd1 : A.depth < recursionLimit)
    (hop : @Ne Nat p o) (hoI : @Ne Nat o I) (hpI : @Ne Nat p I) (hv : vs.toArray.size ≤ 1000) (hw : ws.toArray.size ≤ 1000)
    (hret : ∀ us h' tk' n1' n2', us = (if ws.isEmpty || b then vs else vs ++ ws) → us.toArray.size ≤ 2000 → Fr h₀ L h' m → News h₀ L h' [(o, listOf us.toArray n1'), (p, listOf #[] n2'), (I, oI)] → Q .none { s with heap := h', toks := tk' }) :
    wpAny (model PySem.Challenge.rw_bl0007_01.row.prog w) A (call (.ref 315) [.ref o, .ref p, .bool b]) Q E s := by
  refine flush_w F X N T hd1 hop (fun q hq => ?_) (fun q hq => ?_) (by omega) (by omega) fun h' tk' n1' n2' F' N' => hret _ h' tk' n1' n2' rfl ?_ F' N'
  · rw [List.mem_singleton.mp hq]; exact Ne.symm hoI
  · rw [List.mem_singleton.mp hq]; exact Ne.symm hpI
  · simp at hv hw ⊢
    split
    · omega
    · simp; omega

local macro_rules | `(tactic| walk_at "call ref") => `(tactic| (k_here; (with_reducible show wpAny _ _ (call (Value.ref 315) _ _) _ _ _); k_dflt (refine' flush_k ?F ?X ?N ?T ?r ?a ?b ?c ?d ?e ?_; (case F => k_asm); (case X => k_asm); (case N => k_asm); (case T => k_asm); (case r => first | assumption | (show (_ + 1 : Nat) < _; omega)); (case a => assumption); (case b => assumption); (case c => assumption); (case d => assumption); (case e => assumption); k_whole); intro us h' tk' n1' n2' hus hsz F' N'))

theorem pick_two {h₀ h : Heap} {L l d : Addr} {o o2 : Obj} {r : List (Addr × Obj)} {P : Prop} (_ : News h₀ L h ((l, o) :: (d, o2) :: r)) (k : ∀ d', d' = d → P) : P := k d rfl
local macro_rules | `(tactic| walk_at "subscriptTail") => `(tactic| (k_here; (with_reducible show wpAny _ _ (subscriptTail _ _ (Value.ref _) (Value.int _ _)) _ _ _); k_dflt (refine' last_item ?N ?m ?h ?e ?_ ?k; (case N => k_asm); (case m => k_mem); (case h => assumption); (case e => assumption); (case k => with_unfolding_all rfl); k_whole); intro r z t9 hlr))
local macro_rules | `(tactic| walk_at "subscriptTail Name Constant ref int") => `(tactic| (k_here; (with_reducible show wpAny _ _ (subscriptTail _ _ (Value.ref _) (Value.int _ _)) _ _ _); k_dflt (refine' last_item ?N ?m ?h ?e ?_ ?k; (case N => k_asm); (case m => k_mem); (case h => assumption); (case e => assumption); (case k => with_unfolding_all rfl); k_whole); intro r z t9 hlr))
local macro_rules | `(tactic| walk_at "subscriptTail Name UnaryOp ref int") => `(tactic| (k_here; (with_reducible show wpAny _ _ (subscriptTail _ _ (Value.ref _) (Value.int _ _)) _ _ _); k_dflt (refine' last_item ?N ?m ?h ?e ?_ ?k; (case N => k_asm); (case m => k_mem); (case h => assumption); (case e => assumption); (case k => with_unfolding_all rfl); k_whole); intro r z t9 hlr))
local macro_rules | `(tactic| walk_at "call builtin:list.pop") => `(tactic| (k_here; (with_reducible show wpAny _ _ (call (Value.builtin _) [Value.ref _]) _ _ _); k_dflt (refine' pop_strs ?F ?N ?r ?h ?e ?z ?_; (case F => k_asm); (case N => k_asm); (case h => assumption); (case r => assumption); (case e => assumption); (case z => first | assumption | omega); k_whole); intro h' r z t9 ws hlr hst hsz F' N'))
local macro_rules | `(tactic| walk_at "call builtin:str.join") => `(tactic| (k_here; (with_reducible show wpAny _ _ (call (Value.builtin _) [Value.str _ _, Value.ref _]) _ _ _); k_dflt (refine' join_codes ?a ?b ?c ?d ?_; (case a => k_asm); (case b => k_mem); (case c => assumption); (case d => assumption); k_whole); intro t9 k9 z9 hz9 hz8 hk9))
local macro_rules | `(tactic| walk_at "call builtin:str.strip") => `(tactic| (k_here; (with_reducible show wpAny _ _ (call (Value.builtin "str.strip") [Value.str _ _]) _ _ _); (refine SCL.strip (hsz := ?hsz) ?_); (case hsz => (rw [PySem.sizeLine_eq]; omega)); intro _ _ _))
/-- the names of the loop -/
structure SM (m : Str → Option Value) (y : Str) (o p : Addr) (σ : SS) : Prop where
  st : ∃ t, m (Str.ofString "st") = some (.str y t)
  del : ∃ t, m (Str.ofString "delimiters") = some (.str (Str.ofString ";=") t)
  out : m (Str.ofString "out") = some (.ref o)
  pend : m (Str.ofString "pending_ws") = some (.ref p)
  inq : m (Str.ofString "in_quotes") = some (.bool σ.inq)
  esc : m (Str.ofString "escaped") = some (.bool false)
  last : m (Str.ofString "last_was_delimiter") = some (.bool σ.last)

def SJ (x : List Nat) (y : Str) (o p : Addr) (i : Nat) (m : Str → Option Value) (news : List (Addr × Obj)) : Prop :=
  ∃ (σ : SS) (vo vp : List Value) (k1 k2 : Nat), σ = (x.take i).foldl sstep ⟨[], [], false, false⟩ ∧ news = [(o, listOf vo.toArray k1), (p, listOf vp.toArray k2)] ∧
      StrsAre vo (σ.out.map fun c => S [c]) ∧ StrsAre vp (σ.pend.map fun c => S [c]) ∧ vo.toArray.size + vp.toArray.size ≤ i ∧ SM m y o p σ
theorem strsAre_append : ∀ {vs ws : List Value} {xs ys : List Str}, StrsAre vs xs → StrsAre ws ys → StrsAre (vs ++ ws) (xs ++ ys)
  | _, _, _, _, .nil, h => h
  | _, _, _, _, .cons y t h, h2 => .cons y t (strsAre_append h h2)
theorem flush_strs {σ : SS} {vo vp us : List Value} {b : Bool} (hus : us = (if vp.isEmpty || b then vo else vo ++ vp)) (hb : b = σ.last) (hvo : StrsAre vo (σ.out.map fun c => S [c])) (hvp : StrsAre vp (σ.pend.map fun c => S [c])) :
    StrsAre us ((flushP σ).map fun c => S [c]) ∧ us.length ≤ vo.length + vp.length := by
  have he : vp.isEmpty = σ.pend.isEmpty := by
    have := strsAre_length hvp
    simp at this
    cases vp <;> cases hp : σ.pend <;> simp_all
  subst hb
  rw [he] at hus
  unfold flushP
  cases hc : (σ.pend.isEmpty || σ.last)
  · rw [hc] at hus
    simp only [Bool.false_eq_true, if_false] at hus ⊢
    subst hus
    rw [List.map_append]
    exact ⟨strsAre_append hvo hvp, by simp⟩
  · rw [hc] at hus
    simp only [if_true] at hus ⊢
    subst hus
    exact ⟨hvo, by omega⟩

set_option pp.deepTerms false
set_option pp.maxSteps 3000
set_option maxRecDepth 100000 in
set_option maxHeartbeats 4000000 in
theorem strip_w {w : World} {mean : ExcName → Option Value} {mg mb : Str → Option Value} {A : Around} {s : Shared} {Q E : Value → Shared → Prop} {x : List Nat} {y : Str} {t : Tok}
    (X : (K0 w.params).In s.heap) (T : Top hd.view_39 loos mean mg mb s.heap) (hd1 : A.depth + 20 < recursionLimit) (hh : A.handled = none) (hy : y = S x) (hx : y.length ≤ 1000) (h92 : 92 ∉ x)
    (hret : ∀ t' z h' tk', z = stripF x → (∀ b o, s.heap.get? b = some o → h'.get? b = some o) → Q (.str z t') { s with heap := h', toks := tk' }) :
    wpAny (model PySem.Challenge.rw_bl0007_01.row.prog w) A (call (.ref 323) [.str y t]) Q E s := by
  revert X; k_fill; intro X
  refine wpAny_call ?_
  refine' plain_def (binds := [(Str.ofString "st", .str y t), (Str.ofString "delimiters", .str (Str.ofString ";=") 774)]) X T ?ho ?hcd ?hroom ?hb ?hl ?_ ?c2 ?c3 ?c4 ?c5
  case ho => k_is
  case hcd => k_is
  case hroom => omega
  case hb => exact binds_K (by k_in) rfl (by k_is) rfl rfl rfl
  case hl => exact locs rfl
  case c2 => rfl
  case c3 => rfl
  case c4 => rfl
  case c5 => decide
  intro L' h₁ tk0 htk F' N'
  replace htk : 0 < tk0 := by rw [← htk]; exact Nat.succ_pos _
  dsimp only
  have hsp : Str.ofString " " = S [32] := by decide +kernel
  have htb : Str.ofString "\t" = S [9] := by decide +kernel
  have hbl0 : 32 ∉ x → 9 ∉ x → ¬ x.any ows = true := by
    intro h1 h2 h3
    obtain ⟨c, hc, ho⟩ := List.any_eq_true.mp h3
    unfold ows at ho
    simp at ho
    rcases ho with rfl | rfl
    · exact h1 hc
    · exact h2 hc
  have hbl1 : ∀ c, c = 32 ∨ c = 9 → c ∈ x → x.any ows = true := by
    intro c h hc
    refine List.any_eq_true.mpr ⟨c, hc, ?_⟩
    unfold ows
    rcases h with rfl | rfl <;> rfl
  have hyl : y.length = x.length := by rw [hy, S_len]
  refine execs_cut2 (h₀ := s.heap) (L := L') (fun m' news' => ((∃ t, m' (Str.ofString "st") = some (.str y t)) ∧ ∃ t, m' (Str.ofString "delimiters") = some (.str (Str.ofString ";=") t)) ∧ news' = []) ?_ ?_
  · k_steps
    · refine mid2_next (by assumption) (by assumption) ⟨⟨⟨_, rfl⟩, ⟨_, rfl⟩⟩, rfl⟩
    · refine mid2_ret (Gives.ret (hret _ _ _ _ ?_ (Fr.keep (by assumption))))
      have hx0 : x = [] := by
        have := (by assumption : (y.length : Int) = 0)
        exact List.length_eq_zero_iff.mp (by omega)
      rw [hy, hx0]; rfl
  rintro h2 tk2 m2 news2 ht2 F2 N2 ⟨⟨⟨u1, e1⟩, ⟨u2, e2⟩⟩, rfl⟩
  clear F' N'
  refine execs_cut2 (h₀ := s.heap) (L := L') (fun m' news' => m' = m2 ∧ news' = [] ∧ x.any ows = true) ?_ ?_
  · k_steps
    · dsimp only
      refine mid2_ret (Gives.ret (hret _ _ _ _ ?_ (Fr.keep (by assumption))))
      have h1 := (by assumption : (Builtin.Str.occurrences y (Str.ofString " ") 0 y.length 1).isEmpty = true)
      have h2 := (by assumption : (Builtin.Str.occurrences y (Str.ofString "\t") 0 y.length 1).isEmpty = true)
      rw [hsp, hy, occ_S] at h1
      rw [htb, hy, occ_S] at h2
      unfold stripF
      rw [if_neg (hbl0 (by simpa using h1) (by simpa using h2)), hy]
    · refine mid2_next F2 N2 ⟨rfl, rfl, ?_⟩
      have h2 := (by assumption : (Builtin.Str.occurrences y (Str.ofString "\t") 0 y.length 1).isEmpty = false)
      rw [htb, hy, occ_S] at h2
      exact hbl1 9 (.inr rfl) (by simpa using h2)
    · refine mid2_next F2 N2 ⟨rfl, rfl, ?_⟩
      have h2 := (by assumption : (Builtin.Str.occurrences y (Str.ofString " ") 0 y.length 1).isEmpty = false)
      rw [hsp, hy, occ_S] at h2
      exact hbl1 32 (.inl rfl) (by simpa using h2)
  rintro h3 tk3 m3 news3 ht3 F3 N3 ⟨hm3, hn3, hbl⟩
  subst hn3
  subst hm3
  clear F2 N2
  k_steps
  ·
    rename_i N0
    refine pick_head N0 fun p hp => ?_
    subst hp
    refine pick_two N0 fun o ho => ?_
    subst ho
    have hpo : @Ne Nat p o := by have := (by assumption : o < p); exact Nat.ne_of_gt this
    refine TEnd.mk ?_
    refine for_str (x := y) (t := u1) (h₀ := s.heap) (L := L') hh rfl rfl rfl (SJ x y o p)
      (by assumption : Fr s.heap L' _ (fun y1 => if y1 = Str.ofString "last_was_delimiter" then _ else if y1 = Str.ofString "escaped" then _ else if y1 = Str.ofString "in_quotes" then _ else if y1 = Str.ofString "pending_ws" then _ else if y1 = Str.ofString "out" then _ else m3 y1))
      (news_perm (by assumption : News s.heap L' _ [(p, listOf #[] 0), (o, listOf #[] 0)]) (by simp [or_comm])) ⟨⟨[], [], false, false⟩, [], [], 0, 0, rfl, rfl, .nil, .nil, Nat.le_refl _, ⟨⟨_, e1⟩, ⟨_, e2⟩, rfl, rfl, rfl, rfl, rfl⟩⟩ ?_ ?_ ?_ ?_
    · k_steps
    · rintro i c tok h tk m news I oI htk1 hc ⟨σ, vo, vp, k1, k2, hσ, rfl, hvo, hvp, hsz, ⟨⟨u1, e1⟩, ⟨u2, e2⟩, e3, e4, e5, e6, e7⟩⟩ F1 N1 hI
      have hoI : @Ne Nat o I := hI _ (.head _)
      have hpI : @Ne Nat p I := hI _ (.tail _ (.head _))
      have N2 : News s.heap L' h [(o, listOf vo.toArray k1), (p, listOf vp.toArray k2), (I, oI)] := news_perm N1 (by intro q hq; simp only [List.mem_cons, List.not_mem_nil, or_false] at hq ⊢; rcases hq with h | h | h <;> simp [h])
      clear N1
      have hcx : x[i]? = some c := by rw [hy] at hc; simpa [S] using hc
      have hil : i < x.length := (List.getElem?_eq_some_iff.mp hcx).1
      have hs1 : vo.toArray.size ≤ 1000 := by omega
      have hs2 : vp.toArray.size ≤ 1000 := by omega
      have hbs : Str.ofString "\\" = S [92] := by decide +kernel
      have hqu : Str.ofString "\"" = S [34] := by decide +kernel
      have how : Str.ofString " \t" = S [32, 9] := by decide +kernel
      have hde : Str.ofString ";=" = S [59, 61] := by decide +kernel
      have hcore : ∀ (σ' : SS) (vo' vp' : List Value) (k1' k2' : Nat) h' (tk' : Nat) m' (s0 : Shared), σ' = sstep σ c → StrsAre vo' (σ'.out.map fun c => S [c]) → StrsAre vp' (σ'.pend.map fun c => S [c]) → vo'.length + vp'.length ≤ i + 1 →
          Fr s.heap L' h' m' → News s.heap L' h' [(o, listOf vo'.toArray k1'), (p, listOf vp'.toArray k2'), (I, oI)] → SM m' y o p σ' → FCore s.heap L' s0 I oI (SJ x y o p (i + 1)) { s0 with heap := h', toks := tk' } := by
        intro σ' vo' vp' k1' k2' h' tk' m' s0 hs h1 h2 h3 F3 N3 M3
        refine ⟨h', tk', m', _, rfl, F3, news_perm N3 ?_, ?_, σ', vo', vp', k1', k2', ?_, rfl, h1, h2, by simpa using h3, M3⟩
        · intro q hq; simp only [List.mem_cons, List.not_mem_nil, or_false] at hq ⊢; rcases hq with h | h | h <;> simp [h]
        · intro q hq; simp only [List.mem_cons, List.not_mem_nil, or_false] at hq; rcases hq with rfl | rfl <;> assumption
        · rw [hs, hσ, take_snoc hcx, List.foldl_append]; rfl
      have not34 : (S [c] == Str.ofString "\"") = false → ¬ c = 34 := fun h e => by rw [hqu, e] at h; simp at h
      have ws_yes : ∀ {c : Nat}, (Builtin.Str.occurrences (Str.ofString " \t") (S [c]) 0 (Str.ofString " \t").length 1).isEmpty = false → ows c = true := fun {c} h => by
        rw [how, occ_S] at h
        unfold ows
        rw [Bool.not_eq_false', decide_eq_true_eq] at h
        simpa using h
      have ws_no : ∀ {c : Nat}, (Builtin.Str.occurrences (Str.ofString " \t") (S [c]) 0 (Str.ofString " \t").length 1).isEmpty = true → ows c = false := fun {c} h => by
        rw [how, occ_S] at h
        unfold ows
        simpa using h
      have de_yes : (Builtin.Str.occurrences (Str.ofString ";=") (S [c]) 0 (Str.ofString ";=").length 1).isEmpty = false → (c = 59 ∨ c = 61) := fun h => by
        rw [hde, occ_S, Bool.not_eq_false', decide_eq_true_eq] at h
        simpa using h
      have de_no : (Builtin.Str.occurrences (Str.ofString ";=") (S [c]) 0 (Str.ofString ";=").length 1).isEmpty = true → ¬ (c = 59 ∨ c = 61) := fun h => by
        rw [hde, occ_S] at h
        simpa using h
      cases hq : σ.inq
      · rw [hq] at e5
        k_steps
        all_goals (try dsimp only)
        · have := (by assumption : (S [c] == Str.ofString "\\") = true)
          rw [hbs] at this
          have h1 : c = 92 := by simpa using S_inj (eq_of_beq this)
          exact absurd (List.mem_of_getElem? hcx) (h1 ▸ h92)
        · have hc34 : c = 34 := by
            have := (by assumption : (S [c] == Str.ofString "\"") = true)
            rw [hqu] at this
            simpa using S_inj (eq_of_beq this)
          have hstep : sstep σ c = ⟨flushP σ ++ [c], [], true, false⟩ := by unfold sstep; rw [if_pos hc34, hq]; rfl
          have hf := flush_strs (by assumption : _ = (if (vp.isEmpty || σ.last) = true then vo else vo ++ vp)) rfl hvo hvp
          have hN := (by assumption : News s.heap L' _ [(o, listOf (Array.push _ (.str (S [c]) _)) _), (p, listOf #[] _), (I, oI)])
          rw [List.push_toArray] at hN
          refine FEnd.ofc (hcore ⟨flushP σ ++ [c], [], true, false⟩ _ [] _ _ _ _ _ _ hstep.symm ?_ .nil ?_ (by assumption : Fr s.heap L' _ (fun y => if y = Str.ofString "last_was_delimiter" then _ else if y = Str.ofString "in_quotes" then _ else if y = Str.ofString "ch" then _ else m y)) hN ⟨⟨_, e1⟩, ⟨_, e2⟩, e3, e4, rfl, e6, rfl⟩)
          · rw [List.map_append]; exact strsAre_snoc _ _ hf.1
          · have := hf.2; simp at hsz this ⊢; omega
        · have hc34 := not34 (by assumption)
          have hb := ws_no (by assumption)
          have hd := de_no (by assumption)
          have hstep : sstep σ c = ⟨flushP σ ++ [c], [], false, false⟩ := by unfold sstep; rw [if_neg hc34, if_neg (by rw [hb]; simp), if_neg (fun h => hd h.2), hq]
          have hf := flush_strs (by assumption : _ = (if (vp.isEmpty || σ.last) = true then vo else vo ++ vp)) rfl hvo hvp
          have hN := (by assumption : News s.heap L' _ [(o, listOf (Array.push _ (.str (S [c]) _)) _), (p, listOf #[] _), (I, oI)])
          rw [List.push_toArray] at hN
          refine FEnd.of (hcore ⟨flushP σ ++ [c], [], false, false⟩ _ [] _ _ _ _ _ _ hstep.symm ?_ .nil ?_ (by assumption : Fr s.heap L' _ (fun y => if y = Str.ofString "last_was_delimiter" then _ else if y = Str.ofString "ch" then _ else m y)) hN ⟨⟨_, e1⟩, ⟨_, e2⟩, e3, e4, e5, e6, rfl⟩)
          · rw [List.map_append]; exact strsAre_snoc _ _ hf.1
          · have := hf.2; simp at hsz this ⊢; omega
        · have hc34 := not34 (by assumption)
          have hb := ws_no (by assumption)
          have hd := de_yes (by assumption)
          refine TEnd.mk ?_
          refine while_F (h₀ := s.heap) (L := L') (fun n m' news => ∃ (l : List Nat) (vo' : List Value) (k kp : Nat), n = l.length ∧ l.length ≤ i ∧ StrsAre vo' (l.map fun c => S [c]) ∧ news = [(o, listOf vo'.toArray k), (p, listOf #[] kp), (I, oI)] ∧
            trimR l = trimR σ.out ∧ m' = (fun y => if y = Str.ofString "ch" then some (.str (S [c]) tok) else m y)) (n₀ := σ.out.length) (by assumption) (by assumption) ⟨σ.out, vo, _, _, rfl, ?_, hvo, rfl, rfl, rfl⟩ ?_
          · have := strsAre_length hvo; simp at this hsz; omega
          rintro n h3 tk3 m3 news3 htk3 ⟨l, vo', k, kp, rfl, hl, hvo', rfl, htr, rfl⟩ F3 N3
          have hs3 : vo'.toArray.size ≤ 1000 := by have := strsAre_length hvo'; simp at this ⊢; omega
          have hrst : ∀ q ∈ ([(p, listOf #[] kp), (I, oI)] : List (Addr × Obj)), q.1 ≠ o := by
            intro q hq'; simp only [List.mem_cons, List.not_mem_nil, or_false] at hq'; rcases hq' with rfl | rfl
            · exact hpo
            · exact Ne.symm hoI
          have hstep : sstep σ c = ⟨trimR σ.out ++ [c], [], false, true⟩ := by unfold sstep; rw [if_neg hc34, if_neg (by rw [hb]; simp), if_pos ⟨hq, hd⟩, hq]
          have hend : ∀ h' (tk' : Nat) (s0 : Shared) kq kp' (tk9 : Tok), trimR l = l → Fr s.heap L' h' (fun y => if y = Str.ofString "last_was_delimiter" then some (.bool true) else if y = Str.ofString "ch" then some (.str (S [c]) tok) else m y) →
              News s.heap L' h' [(o, listOf (vo'.toArray.push (.str (S [c]) tk9)) kq), (p, listOf #[] kp'), (I, oI)] → FCore s.heap L' s0 I oI (SJ x y o p (i + 1)) { s0 with heap := h', toks := tk' } := by
            intro h' tk' s0 kq kp' tk9 hl2 F9 N9
            rw [List.push_toArray] at N9
            refine hcore ⟨trimR σ.out ++ [c], [], false, true⟩ _ [] _ _ _ _ _ _ hstep.symm ?_ .nil ?_ F9 N9 ⟨⟨_, e1⟩, ⟨_, e2⟩, e3, e4, e5, e6, rfl⟩
            · rw [← htr, hl2, List.map_append]; exact strsAre_snoc _ _ hvo'
            · have := strsAre_length hvo'; simp at this ⊢; omega
          k_steps
          · dsimp only
            refine FEnd.ofc (hend _ _ _ _ _ _ ?_ (by assumption) (by assumption))
            have := (by assumption : vo'.toArray.isEmpty = true)
            have hl0 : l = [] := by
              have h7 := strsAre_length hvo'
              simp at this h7
              cases l with
              | nil => rfl
              | cons _ _ => rw [this] at h7; simp at h7
            subst hl0; rfl
          · dsimp only
            refine FEnd.ofc (hend _ _ _ _ _ _ ?_ (by assumption) (by assumption))
            rename_i hlr hoc _ _ _ _
            rw [hlr, trimR_snoc, if_neg]
            rw [ws_no hoc]; simp
          · rename_i hlr' hst _ _ _
            subst hlr'
            refine WEnd.mk' (by assumption) (by assumption) ?_ ⟨_, _, _, _, rfl, ?_, hst, rfl, ?_, rfl⟩
            · simp
            · simp at hl; omega
            · have h8 := (by assumption : (_ ++ [_] : List Nat) = _ ++ [_])
              have h9 := List.append_inj_right' h8 rfl
              have hoc := ws_yes (by assumption)
              rw [← htr, trimR_snoc, if_pos]
              simp at h9
              rw [h9]; exact hoc
        · have hc34 := not34 (by assumption)
          have hb := ws_yes (by assumption)
          have hstep : sstep σ c = ⟨σ.out, σ.pend ++ [c], σ.inq, σ.last⟩ := by unfold sstep; rw [if_neg hc34, if_pos ⟨hq, hb⟩]
          have hN := (by assumption : News s.heap L' _ [(o, _), (p, listOf (Array.push _ (.str (S [c]) _)) _), (I, oI)])
          rw [List.push_toArray] at hN
          refine FEnd.ofc (hcore ⟨σ.out, σ.pend ++ [c], σ.inq, σ.last⟩ vo _ _ _ _ _ _ _ hstep.symm hvo ?_ ?_ (by assumption : Fr s.heap L' _ (fun y => if y = Str.ofString "ch" then _ else m y)) hN ⟨⟨_, e1⟩, ⟨_, e2⟩, e3, e4, by rw [hq]; exact e5, e6, e7⟩)
          · rw [List.map_append]; exact strsAre_snoc _ _ hvp
          · simp at hsz ⊢; omega
      · rw [hq] at e5
        k_steps
        all_goals (try dsimp only)
        · have := (by assumption : (S [c] == Str.ofString "\\") = true)
          rw [hbs] at this
          have h1 : c = 92 := by simpa using S_inj (eq_of_beq this)
          exact absurd (List.mem_of_getElem? hcx) (h1 ▸ h92)
        · have := (by assumption : (S [c] == Str.ofString "\\") = true)
          rw [hbs] at this
          have h1 : c = 92 := by simpa using S_inj (eq_of_beq this)
          exact absurd (List.mem_of_getElem? hcx) (h1 ▸ h92)
        · have hc34 : c = 34 := by
            have := (by assumption : (S [c] == Str.ofString "\"") = true)
            rw [hqu] at this
            simpa using S_inj (eq_of_beq this)
          have hstep : sstep σ c = ⟨flushP σ ++ [c], [], false, false⟩ := by unfold sstep; rw [if_pos hc34, hq]; rfl
          have hf := flush_strs (by assumption : _ = (if (vp.isEmpty || σ.last) = true then vo else vo ++ vp)) rfl hvo hvp
          have hN := (by assumption : News s.heap L' _ [(o, listOf (Array.push _ (.str (S [c]) _)) _), (p, listOf #[] _), (I, oI)])
          rw [List.push_toArray] at hN
          refine FEnd.ofc (hcore ⟨flushP σ ++ [c], [], false, false⟩ _ [] _ _ _ _ _ _ hstep.symm ?_ .nil ?_ (by assumption : Fr s.heap L' _ (fun y => if y = Str.ofString "last_was_delimiter" then _ else if y = Str.ofString "in_quotes" then _ else if y = Str.ofString "ch" then _ else m y)) hN ⟨⟨_, e1⟩, ⟨_, e2⟩, e3, e4, rfl, e6, rfl⟩)
          · rw [List.map_append]; exact strsAre_snoc _ _ hf.1
          · have := hf.2; simp at hsz this ⊢; omega
        · have hc34 := not34 (by assumption)
          have hstep : sstep σ c = ⟨flushP σ ++ [c], [], true, false⟩ := by unfold sstep; rw [if_neg hc34, if_neg (by rw [hq]; simp), if_neg (by rw [hq]; simp), hq]
          have hf := flush_strs (by assumption : _ = (if (vp.isEmpty || σ.last) = true then vo else vo ++ vp)) rfl hvo hvp
          have hN := (by assumption : News s.heap L' _ [(o, listOf (Array.push _ (.str (S [c]) _)) _), (p, listOf #[] _), (I, oI)])
          rw [List.push_toArray] at hN
          refine FEnd.of (hcore ⟨flushP σ ++ [c], [], true, false⟩ _ [] _ _ _ _ _ _ hstep.symm ?_ .nil ?_ (by assumption : Fr s.heap L' _ (fun y => if y = Str.ofString "last_was_delimiter" then _ else if y = Str.ofString "ch" then _ else m y)) hN ⟨⟨_, e1⟩, ⟨_, e2⟩, e3, e4, e5, e6, rfl⟩)
          · rw [List.map_append]; exact strsAre_snoc _ _ hf.1
          · have := hf.2; simp at hsz this ⊢; omega
    · rintro h tk m news htk1 ⟨σ, vo, vp, k1, k2, hσ, rfl, hvo, hvp, hsz, ⟨⟨u1, e1⟩, ⟨u2, e2⟩, e3, e4, e5, e6, e7⟩⟩ F1 N1
      have hsx : y.cps.size = x.length := by rw [hy]; simp [S]
      have hs1 : vo.toArray.size ≤ 1000 := by omega
      have hs2 : vp.toArray.size ≤ 1000 := by omega
      have hσx : σ = x.foldl sstep ⟨[], [], false, false⟩ := by rw [hσ, hsx, List.take_length]
      have hpe : σ.pend.isEmpty = vp.toArray.isEmpty := by
        have h7 := strsAre_length hvp
        simp at h7
        cases vp <;> cases hp : σ.pend <;> simp_all
      dsimp only
      refine execs_cut (h₀ := s.heap) (L := L') (fun m' news' => m' = m ∧ ∃ vs' k' q, news' = [(o, listOf vs'.toArray k'), q] ∧ StrsAre vs' ((finS σ).map fun c => S [c])) ?_ ?_
      · k_steps
        · refine mid_intro (by assumption) (by assumption) ⟨rfl, vo, _, _, rfl, ?_⟩
          unfold finS
          rw [hpe, (by assumption : vp.toArray.isEmpty = true)]
          exact hvo
        · refine mid_intro (by assumption) (by assumption) ⟨rfl, vo, _, _, rfl, ?_⟩
          unfold finS
          rw [(by assumption : σ.last = true), Bool.or_true]
          exact hvo
        · have hN := (by assumption : News s.heap L' _ [(o, listOf (vo.toArray ++ vp.toArray) _), _])
          rw [List.append_toArray] at hN
          refine mid_intro (by assumption) hN ⟨rfl, _, _, _, rfl, ?_⟩
          unfold finS
          rw [hpe, (by assumption : vp.toArray.isEmpty = false), (by assumption : σ.last = false)]
          simp only [Bool.or_self, Bool.false_eq_true, if_false]
          rw [List.map_append]
          exact strsAre_append hvo hvp
      · rintro h2 tk2 m2 news2 F2 N3 ⟨rfl, vs', k', q, rfl, hvs'⟩
        have hfl : (finS σ).length ≤ 4000 := by
          have h7 := strsAre_length hvo
          have h8 := strsAre_length hvp
          simp at h7 h8 hs1 hs2
          unfold finS
          split
          · omega
          · simp; omega
        k_steps
        subst_vars
        exact Gives.ret (hret _ _ _ _ (by unfold stripF; rw [if_pos hbl]) (Fr.keep (by assumption)))
    · intro _; rfl
end Strip
end Mine
end
/-! part Rex -/
section
theorem Mine.startRex : True := by
  w_top off
  exact trivial
open PySem PySem.W PyProof.Rows PySem.Calls PySem.Spec
set_option Elab.async false
set_option maxRecDepth 100000
namespace Mine
namespace RX
open PySem.Builtin PySem.Builtin.Re PySem.Sre

theorem runFor_done : ∀ (n : Nat) (m : Sre.M), m.outcome.isSome = true → m.runFor n = m
  | 0, _, _ => rfl
  | n + 1, m, h => by unfold Sre.M.runFor; rw [if_pos h]
theorem runFor_add : ∀ (a b : Nat) (m : Sre.M), m.runFor (a + b) = (m.runFor a).runFor b
  | 0, b, m => by rw [Nat.zero_add]; rfl
  | a + 1, b, m => by
    rw [Nat.add_right_comm]
    by_cases h : m.outcome.isSome = true
    · rw [runFor_done _ _ h, runFor_done _ _ h, runFor_done _ _ h]
    · have e : ∀ n, m.runFor (n + 1) = m.step.runFor n := fun n => by
        conv => lhs; unfold Sre.M.runFor
        rw [if_neg h]
      rw [e, e]
      exact runFor_add a b m.step

section
variable {M : Model} {A : Around} {E : Value → Shared → Prop} {s : Shared}
theorem drive {Q : Sre.M → Shared → Prop} : ∀ (k turns : Nat) (m : Sre.M), k < turns → ((m.runFor (4 * (k + 1))).outcome.isSome = true) → Q (m.runFor (4 * (k + 1))) s → wpAny M A (reDrive turns m) Q E s := by
  intro k
  induction k with
  | zero =>
    intro turns m ht ho hq
    cases turns with
    | zero => omega
    | succ turns =>
      show wpAny M A (if (m.runFor 4).outcome.isSome = true then pure (m.runFor 4) else _) Q E s
      have e : m.runFor (4 * (0 + 1)) = m.runFor 4 := rfl
      rw [e] at ho hq
      rw [if_pos ho]
      exact wpAny_pure hq
  | succ k ih =>
    intro turns m ht ho hq
    cases turns with
    | zero => omega
    | succ turns =>
      have e : m.runFor (4 * (k + 1 + 1)) = (m.runFor 4).runFor (4 * (k + 1)) := by rw [show 4 * (k + 1 + 1) = 4 + 4 * (k + 1) from by omega, runFor_add]
      show wpAny M A (if (m.runFor 4).outcome.isSome = true then pure (m.runFor 4) else (rule "sre.turn" >>= fun _ => reDrive turns (m.runFor 4))) Q E s
      by_cases h : (m.runFor 4).outcome.isSome = true
      · rw [if_pos h]
        rw [e, runFor_done _ _ h] at hq
        exact wpAny_pure hq
      · rw [if_neg h]
        exact wpAny_bind (wpAny_rule (ih turns _ (by omega) (e ▸ ho) (e ▸ hq)))

theorem rules_over {Q : PUnit → Shared → Prop} (f : Nat → Bool) (g : Nat → String) (h : Q PUnit.unit s) : ∀ l : List Nat, wpAny M A (forIn l PUnit.unit fun i _ => if f i = true then (do rule (g i); pure (ForInStep.yield PUnit.unit)) else pure (ForInStep.yield PUnit.unit)) Q E s
  | [] => by simp only [List.forIn_nil]; exact wpAny_pure h
  | i :: l => by
    simp only [List.forIn_cons]
    refine wpAny_bind ?_
    cases hf : f i
    · simp only [Bool.false_eq_true, if_false]
      exact wpAny_pure (rules_over f g h l)
    · simp only [if_true]
      exact wpAny_bind (wpAny_rule (wpAny_pure (rules_over f g h l)))

theorem run_end {Q : Option Sre.M → Shared → Prop} {k : Nat} {m : Sre.M} (hk : k < 2 ^ 64) (b : Bool) (ho : (m.runFor (4 * (k + 1))).outcome = some (if b then .matched else .failed))
    (hq : Q (if b then some (m.runFor (4 * (k + 1))) else none) s) : wpAny M A (reRunToEnd m) Q E s := by
  unfold reRunToEnd
  refine wpAny_bind (drive k (2 ^ 64) m hk (by rw [ho]; rfl) ?_)
  generalize m.runFor (4 * (k + 1)) = r at ho hq
  refine wpAny_bind (rules_over (fun i => r.seen.has i) (fun i => Sre.names.getD i "") ?_ _)
  rw [ho]
  cases b
  · exact wpAny_pure hq
  · exact wpAny_pure hq
end

theorem slot_match : Slot "re.Pattern" "match" "re.Pattern.match" :=
  .of (owner := "re.Pattern") (n := "match") (by rw [typeLookup_type, builtinLookup_eq_fast]; kernel_rfl) (by decide +kernel) (by decide +kernel) (by decide +kernel)
    (by first | exact .inl (by decide +kernel) | exact .inr (by decide +kernel)) (by rw [isSubtype_type]; kernel_rfl)
theorem slot_full : Slot "re.Pattern" "fullmatch" "re.Pattern.fullmatch" :=
  .of (owner := "re.Pattern") (n := "fullmatch") (by rw [typeLookup_type, builtinLookup_eq_fast]; kernel_rfl) (by decide +kernel) (by decide +kernel) (by decide +kernel)
    (by first | exact .inl (by decide +kernel) | exact .inr (by decide +kernel)) (by rw [isSubtype_type]; kernel_rfl)
theorem slot_sub : Slot "re.Pattern" "sub" "re.Pattern.sub" :=
  .of (owner := "re.Pattern") (n := "sub") (by rw [typeLookup_type, builtinLookup_eq_fast]; kernel_rfl) (by decide +kernel) (by decide +kernel) (by decide +kernel)
    (by first | exact .inl (by decide +kernel) | exact .inr (by decide +kernel)) (by rw [isSubtype_type]; kernel_rfl)
theorem entry_match : entryFor table "re.Pattern.match" = some Builtin.«re.Pattern.match» := entryFor_of_tree (by kernel_rfl)
theorem entry_full : entryFor table "re.Pattern.fullmatch" = some Builtin.«re.Pattern.fullmatch» := entryFor_of_tree (by kernel_rfl)
theorem entry_sub : entryFor table "re.Pattern.sub" = some Builtin.«re.Pattern.sub» := entryFor_of_tree (by kernel_rfl)
theorem entry_loop : entryFor table "re.Pattern.sub.loop" = some Builtin.«re.Pattern.sub.loop» := entryFor_of_tree (by kernel_rfl)
theorem type_match : typeOf (.builtin "re.Pattern.match") = pure (.type "method_descriptor") := by show builtinType _ = _; rw [builtinType_eq_fast]; kernel_rfl
theorem type_full : typeOf (.builtin "re.Pattern.fullmatch") = pure (.type "method_descriptor") := by show builtinType _ = _; rw [builtinType_eq_fast]; kernel_rfl
theorem type_sub : typeOf (.builtin "re.Pattern.sub") = pure (.type "method_descriptor") := by show builtinType _ = _; rw [builtinType_eq_fast]; kernel_rfl
theorem plain : PlainAttrs "re.Pattern" := ⟨⟨"object.__getattribute__", by rw [typeLookup_type, builtinLookup_eq_fast]; kernel_rfl, by decide +kernel⟩, by rw [typeLookup_type, builtinLookup_eq_fast]; kernel_rfl⟩
theorem args_match (a b : Value) : argsOk "re.Pattern.match" ⟨[a, b], []⟩ := by unfold argsOk; kernel_rfl
theorem args_full (a b : Value) : argsOk "re.Pattern.fullmatch" ⟨[a, b], []⟩ := by unfold argsOk; kernel_rfl
theorem args_sub (a b c : Value) : argsOk "re.Pattern.sub" ⟨[a, b, c], []⟩ := by unfold argsOk; kernel_rfl

structure IsPat (h : Heap) (p ct : Addr) (code : Array Nat) : Prop where
  pat : ∃ v0 v1 v3 v4, h.get? p = some { cls := .type "re.Pattern", dict := none, data := .fields #[v0, v1, .int 0 0, v3, v4, .ref ct, .int 0 0], slots := #[] }
  tup : ∃ items n, h.get? ct = some { cls := .type "tuple", dict := none, data := .seq items n, slots := #[] } ∧ (items.map reRawOf).map (·.toNat) = code
theorem IsPat.keeps {h h' : Heap} {p ct : Addr} {code : Array Nat} (I : IsPat h p ct code) (k : ∀ b o, h.get? b = some o → h'.get? b = some o) : IsPat h' p ct code :=
  ⟨let ⟨a, b, c, d, e⟩ := I.pat; ⟨a, b, c, d, k _ _ e⟩, let ⟨a, b, e, f⟩ := I.tup; ⟨a, b, k _ _ e, f⟩⟩

section
variable {prog : Program} {w : World} {A : Around} {E : Value → Shared → Prop} {s : Shared}
theorem target_ok {p ct : Addr} {code : Array Nat} {x : Str} {t : Tok} {id f : String} {Q : ReTarget → Shared → Prop} (I : IsPat s.heap p ct code)
    (h : Q { pattern := .ref p, string := .str x t, code := code, text := x.cps, kind := 0, groups := 0, pos := 0, lim := min (2 ^ 63 - 1) x.cps.size } s) :
    wpAny (model prog w) A (reTarget id f ⟨[.ref p, .str x t], []⟩) Q E s := by
  obtain ⟨⟨v0, v1, v3, v4, hp⟩, items, n, ht, hc⟩ := I
  unfold reTarget
  show wpAny _ _ (reNamed id f ["string", "pos", "endpos"] 1 [.str x t] [] >>= _) _ _ s
  refine wpAny_bind (wpAny_of_eq (a := [some (.str x t), none, none]) rfl ?_)
  refine wpAny_bind (wpAny_pure ?_)
  refine wpAny_bind (wpAny_pure ?_)
  refine wpAny_bind (wpAny_fieldsOf hp rfl ?_)
  refine wpAny_bind (wpAny_of_eq (a := (x.cps, 0)) rfl ?_)
  show wpAny _ _ (reNoCollectionInside (.str x t) 0 >>= _) _ _ s
  refine wpAny_bind (wpAny_of_eq (a := ()) rfl ?_)
  show wpAny _ _ (reRawItems (.ref ct) >>= _) _ _ s
  refine wpAny_bind ?_
  unfold reRawItems
  refine wpAny_bind (wpAny_seqItems ht rfl (wpAny_pure (wpAny_pure ?_)))
  rw [← hc] at h
  exact h

/-- an answer that is no match -/
theorem answer_no {t : ReTarget} {m : Sre.M} {k : Nat} {Q : Fin → Shared → Prop} (hk : k < 2 ^ 64) (ho : (m.runFor (4 * (k + 1))).outcome = some .failed) (h : Q (.done (.ret .none)) s) :
    wpAny (model prog w) A (reAnswer t m) Q E s := by
  unfold reAnswer
  exact wpAny_bind (run_end hk false ho (wpAny_pure h))
/-- an answer that is a match: two new objects -/
theorem answer_yes {t : ReTarget} {m : Sre.M} {k : Nat} {Q : Fin → Shared → Prop} (hk : k < 2 ^ 64) (ho : (m.runFor (4 * (k + 1))).outcome = some .matched) (hg : t.groups = 0)
    (h : ∀ o1 o2, o1.isFreed = false → o2.isFreed = false → o2.cls = .type "re.Match" → Q (.done (.ret (.ref (s.heap.push o1).objs.size))) { s with heap := (s.heap.push o1).push o2 }) :
    wpAny (model prog w) A (reAnswer t m) Q E s := by
  unfold reAnswer
  refine wpAny_bind (run_end hk true ho ?_)
  show wpAny _ _ (reNewMatch _ _ t.groups _ _ _ >>= fun v => ret v) _ _ s
  rw [hg]
  unfold reNewMatch
  refine wpAny_bind ?_
  show wpAny _ _ (newTuple _ >>= fun v => newFields _ [_, _, _, _, _, v]) _ _ s
  refine wpAny_bind ?_
  simp only [newTuple, newFields]
  refine wpAny_newObj_type (wpAny_newObj_type (wpAny_pure (h _ _ rfl rfl rfl)) (by size_fits)) (by simp only [List.range_zero, List.flatMap_nil]; size_fits)

theorem call_match_no {p ct : Addr} {code : Array Nat} {x : Str} {t : Tok} {k : Nat} {Q : Value → Shared → Prop} (I : IsPat s.heap p ct code) (hx : x.cps.size ≤ 2 ^ 62) (hk : k < 2 ^ 64)
    (ho : ((Sre.forMatch code x.cps 0 0 x.cps.size false false).runFor (4 * (k + 1))).outcome = some .failed) (h : Q .none s) :
    wpAny (model prog w) A (call (.builtin "re.Pattern.match") [.ref p, .str x t]) Q E s := by
  have hT : s.TypeIs (.ref p) "re.Pattern" := let ⟨_, _, _, _, e⟩ := I.pat; ⟨_, e, rfl⟩
  refine wpAny_call_entry slot_match hT entry_match ?_ (args_match _ _)
  show wpAny _ _ (reTarget "re.Pattern.match" "match" ⟨[.ref p, .str x t], []⟩ >>= _) _ _ s
  refine wpAny_bind (target_ok I ?_)
  have e : min (2 ^ 63 - 1) x.cps.size = x.cps.size := by omega
  dsimp only
  rw [e]
  exact answer_no hk ho ⟨_, rfl, h⟩
theorem call_full_no {p ct : Addr} {code : Array Nat} {x : Str} {t : Tok} {k : Nat} {Q : Value → Shared → Prop} (I : IsPat s.heap p ct code) (hx : x.cps.size ≤ 2 ^ 62) (hk : k < 2 ^ 64)
    (ho : ((Sre.forMatch code x.cps 0 0 x.cps.size true false).runFor (4 * (k + 1))).outcome = some .failed) (h : Q .none s) :
    wpAny (model prog w) A (call (.builtin "re.Pattern.fullmatch") [.ref p, .str x t]) Q E s := by
  have hT : s.TypeIs (.ref p) "re.Pattern" := let ⟨_, _, _, _, e⟩ := I.pat; ⟨_, e, rfl⟩
  refine wpAny_call_entry slot_full hT entry_full ?_ (args_full _ _)
  show wpAny _ _ (reTarget "re.Pattern.fullmatch" "fullmatch" ⟨[.ref p, .str x t], []⟩ >>= _) _ _ s
  refine wpAny_bind (target_ok I ?_)
  have e : min (2 ^ 63 - 1) x.cps.size = x.cps.size := by omega
  dsimp only
  rw [e]
  exact answer_no hk ho ⟨_, rfl, h⟩
theorem call_full_yes {p ct : Addr} {code : Array Nat} {x : Str} {t : Tok} {k : Nat} {Q : Value → Shared → Prop} (I : IsPat s.heap p ct code) (hx : x.cps.size ≤ 2 ^ 62) (hk : k < 2 ^ 64)
    (ho : ((Sre.forMatch code x.cps 0 0 x.cps.size true false).runFor (4 * (k + 1))).outcome = some .matched)
    (h : ∀ o1 o2, o1.isFreed = false → o2.isFreed = false → o2.cls = .type "re.Match" → Q (.ref (s.heap.push o1).objs.size) { s with heap := (s.heap.push o1).push o2 }) :
    wpAny (model prog w) A (call (.builtin "re.Pattern.fullmatch") [.ref p, .str x t]) Q E s := by
  have hT : s.TypeIs (.ref p) "re.Pattern" := let ⟨_, _, _, _, e⟩ := I.pat; ⟨_, e, rfl⟩
  refine wpAny_call_entry slot_full hT entry_full ?_ (args_full _ _)
  show wpAny _ _ (reTarget "re.Pattern.fullmatch" "fullmatch" ⟨[.ref p, .str x t], []⟩ >>= _) _ _ s
  refine wpAny_bind (target_ok I ?_)
  have e : min (2 ^ 63 - 1) x.cps.size = x.cps.size := by omega
  dsimp only
  rw [e]
  exact answer_yes hk ho rfl fun o1 o2 a b c => ⟨_, rfl, h o1 o2 a b c⟩
theorem get_pat {name : Str} {id : String} {p ct : Addr} {code : Array Nat} {pl : Sem Bool} {Q : Value × List Value → Shared → Prop} (I : IsPat s.heap p ct code) (slot : Slot "re.Pattern" name id)
    (hty : typeOf (.builtin id) = pure (.type "method_descriptor")) (h : Q (.builtin id, [.ref p]) s) : wpAny (model prog w) A (getMethod (.ref p) name pl) Q E s := by
  obtain ⟨v0, v1, v3, v4, e⟩ := I.pat
  exact getMethod_builtin ⟨_, e, rfl⟩ plain slot hty (fun a ha => by cases ha; exact ⟨_, e, rfl⟩) h
end
end RX
end Mine
end
/-! part Vtok -/
section
theorem Mine.startVtok : True := by
  w_top off
  exact trivial
open PySem PySem.W PyProof.Rows PySem.Calls PySem.Spec
set_option Elab.async false
set_option maxRecDepth 100000
namespace Mine
section Vtok
open RX PySem.Builtin PySem.Builtin.Re
def nameCode : Array Nat := #[14, 4, 0, 1, 4294967295, 24, 12, 1, 4294967295, 13, 7, 22, 45, 46, 8, 14, 0, 1, 1]
def unsafeCode : Array Nat := #[14, 14, 4, 1, 1, 9, 4294966783, 201330692, 0, 2147483648, 0, 0, 0, 0, 0, 13, 11, 9, 4294966783, 201330692, 0, 2147483648, 0, 0, 0, 0, 0, 1]
def qunsafeCode : Array Nat := #[14, 14, 4, 1, 1, 9, 4294966783, 4, 0, 2147483648, 0, 0, 0, 0, 0, 13, 11, 9, 4294966783, 4, 0, 2147483648, 0, 0, 0, 0, 0, 1]
def foldCode : Array Nat := #[14, 4, 0, 2, 4294967295, 23, 12, 1, 4294967295, 24, 6, 0, 1, 16, 13, 1, 16, 10, 18, 13, 6, 16, 32, 16, 9, 0, 1]
theorem pat_name {P : Params} {h : Heap} (X : (K0 P).In h) : IsPat h 196 195 nameCode := ⟨⟨_, _, _, _, X 196 _ rfl⟩, ⟨_, _, X 195 _ rfl, by decide +kernel⟩⟩
theorem pat_unsafe {P : Params} {h : Heap} (X : (K0 P).In h) : IsPat h 208 207 unsafeCode := ⟨⟨_, _, _, _, X 208 _ rfl⟩, ⟨_, _, X 207 _ rfl, by decide +kernel⟩⟩
theorem pat_qunsafe {P : Params} {h : Heap} (X : (K0 P).In h) : IsPat h 213 212 qunsafeCode := ⟨⟨_, _, _, _, X 213 _ rfl⟩, ⟨_, _, X 212 _ rfl, by decide +kernel⟩⟩
theorem pat_fold {P : Params} {h : Heap} (X : (K0 P).In h) : IsPat h 308 307 foldCode := ⟨⟨_, _, _, _, X 308 _ rfl⟩, ⟨_, _, X 307 _ rfl, by decide +kernel⟩⟩

/-- a text that NAME takes whole, or not -/
def NameOk (x : Str) (b : Bool) : Prop := ∃ k, k < 2 ^ 64 ∧ ((Sre.forMatch nameCode x.cps 0 0 x.cps.size true false).runFor (4 * (k + 1))).outcome = some (if b then .matched else .failed)

section
variable {prog : Program} {w : World} {A : Around} {E : Value → Shared → Prop} {s : Shared} {h₀ : Heap} {L : Addr} {m : Str → Option Value} {news : List (Addr × Obj)} {Q : Value → Shared → Prop}
theorem full_yes_k {p ct : Addr} {code : Array Nat} {x : Str} {t : Tok} {k : Nat} (F : Fr h₀ L s.heap m) (N : News h₀ L s.heap news) (I : IsPat s.heap p ct code) (hx : x.length ≤ 4000) (hk : k < 2 ^ 64)
    (ho : ((Sre.forMatch code x.cps 0 0 x.cps.size true false).runFor (4 * (k + 1))).outcome = some .matched)
    (h : ∀ r h', Fr h₀ L h' m → News h₀ L h' news → Q (.ref r) { s with heap := h' }) : wpAny (model prog w) A (call (.builtin "re.Pattern.fullmatch") [.ref p, .str x t]) Q E s :=
  call_full_yes I (by have : x.cps.size = x.length := rfl; omega) hk ho fun o1 o2 _ _ _ => h _ _ ((F.push o1).push o2) ((N.pushKeep o1).pushKeep o2)
end
local macro_rules | `(tactic| walk_at "call builtin:re.Pattern.fullmatch") => `(tactic| (k_here; k_dflt (refine' full_yes_k ?F ?N (pat_name ?X) ?a ?b ?c ?_; (case F => k_asm); (case N => k_asm); (case X => exact Frag.In.keeps (by k_asm) (Fr.keep (by k_asm))); (case a => omega); (case b => assumption); (case c => assumption); k_whole); intro r9 h' F' N'))
local macro_rules | `(tactic| k_room) => `(tactic| ktr_room)
local macro_rules | `(tactic| k_units) => `(tactic| ktr_units)
local macro_rules | `(tactic| k_all) => `(tactic| assumption)
local macro_rules | `(tactic| walk_at "getMethod ref") => `(tactic| (k_here; (with_reducible show wpAny _ _ (getMethod (Value.ref 196) _ _) _ _ _); k_dflt (refine' get_pat (pat_name ?X) slot_full type_full ?_; (case X => exact Frag.In.keeps (by k_asm) (Fr.keep (by k_asm))); k_whole)))
set_option pp.deepTerms false
set_option pp.maxSteps 3000
set_option maxHeartbeats 4000000 in
theorem vtok_ok {w : World} {mean : ExcName → Option Value} {mg mb : Str → Option Value} {A : Around} {s : Shared} {Q E : Value → Shared → Prop} {y : Str} {t : Tok}
    (X : (K0 w.params).In s.heap) (T : Top hd.view_39 loos mean mg mb s.heap) (hd1 : A.depth + 20 < recursionLimit) (hx : y.length ≤ 1000) (hy : NameOk y true)
    (hret : ∀ h' tk', (∀ b o, s.heap.get? b = some o → h'.get? b = some o) → Q .none { s with heap := h', toks := tk' }) :
    wpAny (model PySem.Challenge.rw_bl0007_01.row.prog w) A (call (.ref 203) [.str y t]) Q E s := by
  revert X; k_fill; intro X
  refine wpAny_call ?_
  refine' plain_def (binds := [(Str.ofString "name", .str y t)]) X T ?ho ?hcd ?hroom ?hb ?hl ?_ ?c2 ?c3 ?c4 ?c5
  case ho => k_is
  case hcd => k_is
  case hroom => omega
  case hb => exact BindsTo.of_eq rfl
  case hl => exact locs rfl
  case c2 => rfl
  case c3 => rfl
  case c4 => rfl
  case c5 => decide
  intro L' h₁ tk0 htk F' N'
  replace htk : 0 < tk0 := by rw [← htk]; exact Nat.succ_pos _
  obtain ⟨k, hk, ho⟩ := hy
  dsimp only at ho ⊢
  k_steps
  dsimp only
  exact Gives.ret (hret _ _ (Fr.keep (by assumption)))
end Vtok
end Mine
end
/-! part Gmat -/
section
theorem Mine.startGmat : True := by
  w_top off
  exact trivial
local macro_rules | `(tactic| walk_at "pad0") => `(tactic| skip)
local macro_rules | `(tactic| walk_at "pad1") => `(tactic| skip)
local macro_rules | `(tactic| walk_at "pad2") => `(tactic| skip)
open PySem PySem.W PyProof.Rows PySem.Calls PySem.Spec
set_option Elab.async false
set_option maxRecDepth 100000
namespace Mine
open RX
/-- the code table's object -/
def TabLike (o : Obj) : Prop := ∃ ps, o = tabObj ps ∧ TriplesOk ps.toList
section
variable {prog : Program} {w : World} {A : Around} {E : Value → Shared → Prop} {s : Shared}

/-- one character that a pattern does not take -/
def NoHit (code : Array Nat) (c : Nat) : Prop := ∃ k, k < 2 ^ 64 ∧ ((Sre.forMatch code #[c] 0 0 1 false false).runFor (4 * (k + 1))).outcome = some .failed

theorem elt_match {cenv : Env} {m : Str → Option Value} {p1 p2 p3 p4 : Pos} {c : Nat} {u : Tok} {cc p ct : Addr} {code : Array Nat} (hn : s.heap.Ns cenv.locals m) (hm : m (Str.ofString "char") = some (.str (S [c]) u))
    (hk : cenv.scope.kind = .function) (hfree : cenv.kindOf (Str.ofString "validator") = some .free) (hloc : cenv.kindOf (Str.ofString "char") = some .local)
    (hcl : cenv.cells.lookup (Str.ofString "validator") = some cc) (hcell : s.heap.IsCell cc (some (.ref p))) (I : IsPat s.heap p ct code) (hno : NoHit code c)
    (hcall : ∀ env, eval (.Call (.Attribute (.Name (Str.ofString "validator") p1) (Str.ofString "match") p2) [.Name (Str.ofString "char") p3] [] p4) env = (do
      let ov ← eval (.Name (Str.ofString "validator") p1) env
      standAt (p2 : Pos).atName
      let (f, first) ← holding [ov] (getMethod ov (Str.ofString "match") (do let b ← importBound (.Name (Str.ofString "validator") p1) env; pure (b.getD true)))
      callWith p4 f first (backTo p4 (starEach [.Name (Str.ofString "char") p3] env)) [])) :
    wpAny (model prog w) A (eval (.Call (.Attribute (.Name (Str.ofString "validator") p1) (Str.ofString "match") p2) [.Name (Str.ofString "char") p3] [] p4) cenv) (fun v s' => v = .none ∧ Keeps s s') E s := by
  refine MethodCall_ (pl := (do let b ← importBound (.Name (Str.ofString "validator") p1) cenv; pure (b.getD true))) ?_ (hcall cenv)
  refine wpAny_Name (wpAny_loadName_free hk hfree hcl hcell ?_) (by decide)
  refine get_pat I slot_match type_match ?_
  dsimp only
  refine callWith_method1 (spliced_more ?_)
  refine wpAny_Name (wpAny_loadName_local hk hloc hn hm (spliced_none ?_)) (by decide)
  obtain ⟨k, hk1, ho⟩ := hno
  refine call_match_no I (by simp [S]) hk1 ?_ ⟨rfl, s.heap, s.toks, rfl, fun _ _ e => e⟩
  exact ho
end
end Mine
namespace Mine
open RX
section
variable {prog : Program} {w : World} {A : Around} {E : Value → Shared → Prop} {s : Shared}
theorem pyIter_text {x : Str} {t : Tok} {Q : Value → Shared → Prop}
    (hQ : ∀ (o : Obj) (St : Nat → Heap → Prop), (∀ A' : Around, A'.handled = none → Walks prog w A' s.heap.objs.size [s.heap.objs.size] [s.heap.objs.size] x.cps.size (SignAt x) St) → (∀ i h, St i h → ∃ o, h.get? s.heap.objs.size = some o) → St 0 (s.heap.push o) →
      Q (.ref s.heap.objs.size) { s with heap := s.heap.push o }) : wpAny (model prog w) A (pyIter (.str x t)) Q E s := by
  cases ha : x.cps.all (· < 128)
  · exact wpAny_pyIter_wide ha (hQ _ _ (fun A' hA => Walks.strWide hA _ x t) (fun _ _ st => let ⟨o, ho, _⟩ := st; ⟨o, ho⟩) ⟨_, Heap.get?_push_size _ rfl, rfl, rfl⟩)
  · exact wpAny_pyIter_ascii ha (hQ _ _ (fun A' hA => Walks.strAscii hA _ x t) (fun _ _ st => let ⟨o, ho, _⟩ := st; ⟨o, ho⟩) ⟨_, Heap.get?_push_size _ rfl, rfl, rfl⟩)
theorem tab_grown {h h' : Heap} {c P : Addr} {ps : Array Value} (I : h'.IsCode c P ps) (hP : h'.get? P = some (tabObj ps)) : ∃ o, h'.get? P = some o ∧ TabLike o :=
  let ⟨_, _, _, _, _, _, _, _, _, _, _, _, _, _, _, _, _, _, _, t, _⟩ := I
  ⟨tabObj ps, hP, ps, rfl, t⟩
/-- the code of a generator expression, and what its table is then -/
theorem genexprCodeT {env : Env} {c P : Addr} {ps : Array Value} {pos : Pos} {qualname : Str} {scope : Scope} {Q : Value → Shared → Prop} (hc : env.code = .ref c) (hok : s.heap.IsCode c P ps) (hPt : s.heap.get? P = some (tabObj ps))
    (hQ : ∀ code h' tk ps', Heap.ExtBut P s.heap h' → h'.IsCode c P ps' → h'.get? P = some (tabObj ps') → Q code { s with heap := h', toks := tk }) :
    wpAny (model prog w) A (genexprCode env pos qualname scope) Q E s := by
  obtain ⟨o, vs, file, tf, flags, tg, inF, text, tt, op, ho, hd, h11, h2, h7, h9, h10, hop, hpd, htr, hne⟩ := id hok
  have hope : op = tabObj ps := Option.some.inj (hop.symm.trans hPt)
  subst hope
  unfold genexprCode codeAt
  rw [hc, if_neg (show ¬ ((Value.ref c == Value.none) = true) from Bool.false_ne_true)]
  refine wpAny_bind (wpAny_fieldsOf ho hd ?_)
  rw [h11]
  refine wpAny_bind (wpAny_fieldsOf hop hpd ?_)
  cases hnf : codeAmong pos ps.toList with
  | some cv => exact wpAny_pure (hQ cv s.heap s.toks ps (Heap.ExtBut.refl _ _) hok hPt)
  | none =>
    rw [h2, h7, h9, h10]
    refine wpAny_bind (wpAny_newCode fun c' P' h' tk hk hc' hP' hcode' hrec' => ?_)
    have hop' := hk _ _ hop
    refine wpAny_bind (wpAny_updateFieldsOfTheText hop' hpd ?_)
    have hnew : (Obj.mapFields (fun vs => if (codeAmong pos vs.toList).isSome = true then vs else vs ++ #[rawInt pos.line, rawInt pos.col, .ref c']) (tabObj ps)).data =
        .fields (ps ++ #[rawInt pos.line, rawInt pos.col, .ref c']) := by
      rw [Obj.data_mapFields hpd, hnf]; rfl
    have hnewT : (Obj.mapFields (fun vs => if (codeAmong pos vs.toList).isSome = true then vs else vs ++ #[rawInt pos.line, rawInt pos.col, .ref c']) (tabObj ps)) = tabObj (ps ++ #[rawInt pos.line, rawInt pos.col, .ref c']) := by
      simp only [Obj.mapFields, hnf, Option.isSome_none, Bool.false_eq_true, if_false]
    have hget := Heap.get?_update_self (h := h') (fun o => Obj.mapFields (fun vs => if (codeAmong pos vs.toList).isSome = true then vs else
      vs ++ #[rawInt pos.line, rawInt pos.col, .ref c']) o) hop' (Obj.isFreed_of_fields hnew)
    refine wpAny_bind (wpAny_fieldsOf hget hnew ?_)
    have hl : (ps ++ #[rawInt pos.line, rawInt pos.col, Value.ref c']).toList = ps.toList ++ [rawInt pos.line, rawInt pos.col, .ref c'] := by simp
    rw [hl, codeAmong_snoc _ htr hnf]
    refine wpAny_pure (hQ _ _ _ (ps ++ #[rawInt pos.line, rawInt pos.col, .ref c']) (fun b o' hb e => ((Heap.SameBut.update ..).extBut b o' hb (hk b o' e))) ?_ (by rw [hget, hnewT]))
    exact ⟨o, vs, file, tf, flags, tg, inF, text, tt, _, (Heap.SameBut.update ..).extBut _ _ hne (hk _ _ ho), hd, h11, h2, h7, h9, h10, hget, hnew,
      by rw [hl]; exact TriplesOk_snoc _ _ _ _ htr, hne⟩

/-- a generator expression over a text: made; its items by elt -/
theorem gen_text {env : Env} {elt : Expr} {x nm : Str} {px pn : Pos} {scope : Scope} {cl : List (Str × Addr)} {pos : Pos} {Q : Value → Shared → Prop} {G : Heap} {L c P : Addr} {m mg : Str → Option Value} {bm : Addr} {ob oT : Obj} {y : Str} {t : Tok} {FF : Nat → Value → Prop}
    (F : Fr G L s.heap m) (hGP : G.get? P = none) (hPL : P ≠ L) (M : BMod G env.globals mg bm ob) (hlim : G.NoLimit)
    (hIs : ∀ (h : Heap) (o : Obj) (ps : Array Value), (∀ b ob, G.get? b = some ob → h.get? b = some ob) → h.get? P = some o → o.data = .fields ps → TriplesOk ps.toList → h.IsCode c P ps)
    (hP : s.heap.get? P = some oT) (hT : TabLike oT) (hcode : env.code = .ref c)
    (hh : A.handled = none) (hco : scope.isCoroutine = false) (hclos : closureFor scope env = pure cl) (hcell : ∀ y ∈ scope.names, y.2 ≠ .cell) (h0 : scope.names.lookup (".0" : Str) = some NameKind.local)
    (hx : scope.names.lookup x = some .local) (hkind : scope.kind = .function) (hroom : A.depth < recursionLimit)
    (hread : wpAny (model prog w) A (eval (.Name nm pn) env) (fun v s' => v = .str y t ∧ s' = s) E s)
    (helt : ∀ (A' : Around) E' i v (s₂ : Shared) m₂ C code, A'.handled = none → SignAt y i v → s₂.heap.Ns C m₂ → m₂ x = some v → (∀ b o, b ≠ P → s.heap.get? b = some o → s₂.heap.get? b = some o) →
      wpAny (model prog w) A' (eval elt (genEnv scope cl C code builtinsNs env)) (fun z s₃ => FF i z ∧ Keeps s₂ s₃) E' s₂)
    (hQ : ∀ (a : Addr) (h' : Heap) (tk' : Nat) (gs : GenState) (oT' : Obj) (I wr : List Addr) (St : Nat → Shared → Prop), TabLike oT' → gs.bare = true → h'.get? P = some oT' → (∀ b o, b ≠ P → s.heap.get? b = some o → h'.get? b = some o) → (∀ b ∈ wr, s.heap.objs.size ≤ b) →
      WalksS prog w A.in4 a I wr (GenOnlyQ s.gens.size) y.cps.size FF St → St 0 { s with gens := s.gens.push gs, toks := tk', heap := h' } → Q (.ref a) { s with gens := s.gens.push gs, toks := tk', heap := h' })
    (hs : ∀ v, genFold (.Name nm pn) env v = pure v) :
    wpAny (model prog w) A (eval (.GeneratorExp elt [⟨.Name x px, .Name nm pn, [], 0⟩] scope pos) env) Q E s := by
  obtain ⟨ps, rfl, hTt⟩ := hT
  have hPlt : P < s.heap.objs.size := Heap.lt_size hP
  refine wpAny_GeneratorExp_walksQD hh hco hclos hcell h0 hx hkind hroom (wpAny_mono hread (fun v s' hv => ?_) fun _ _ e => e) hs
  obtain ⟨rfl, rfl⟩ := hv
  refine pyIter_text fun o St W hsome st => ?_
  have keepG : ∀ {h' : Heap}, (∀ b o, b ≠ P → s'.heap.get? b = some o → h'.get? b = some o) → ∀ b ob, G.get? b = some ob → h'.get? b = some ob := fun {h'} hk b ob e => hk b ob (fun q => by rw [q, hGP] at e; cases e) (F.keep b ob e)
  have k1 : ∀ b o', s'.heap.get? b = some o' → (s'.heap.push o).get? b = some o' := fun b o' e => Heap.get?_push_of_some _ e
  have nl : ∀ {h' : Heap}, (∀ b o, b ≠ P → s'.heap.get? b = some o → h'.get? b = some o) → h'.NoLimit := fun {h'} hk => hlim.keeps (keepG hk)
  refine ⟨nl fun b o' _ e => k1 b o' e, ?_⟩
  refine genexprCodeT hcode (hIs _ (tabObj ps) ps (keepG fun b o' _ e => k1 b o' e) (k1 _ _ hP) rfl hTt) (k1 _ _ hP) fun code h' tk' ps' hx' hI' hIP' => ?_
  obtain ⟨oT', hP', hT'⟩ := tab_grown (h := h') hI' hIP'
  have k2 : ∀ b o', b ≠ P → s'.heap.get? b = some o' → h'.get? b = some o' := fun b o' hb e => hx' b o' hb (k1 b o' e)
  have M' := M.keeps (keepG k2)
  refine wpAny_builtinsFor M'.ns M'.name M'.ne M'.obj M'.cls M'.dict M'.data ?_
  have hcsP : cStatics ≠ P := fun e => by
    obtain ⟨_, hns, _⟩ := hlim
    obtain ⟨o9, _, _, e9, _⟩ := hns
    rw [e, hGP] at e9; cases e9
  have hIs' : s'.heap.objs.size < h'.objs.size := by
    obtain ⟨o2, ho⟩ := hsome _ _ st
    exact Heap.lt_size (hx' _ _ (Nat.ne_of_gt hPlt) ho)
  refine ⟨s'.heap.objs.size, [s'.heap.objs.size], [s'.heap.objs.size], y.cps.size, SignAt y, St, (fun _ => true), FF, rfl, W, ?_, ?_, nl k2, ?_, ?_, ?_⟩
  · exact (W A hh).frame _ _ _ st fun b hb o' e => hx' b o' (by rw [List.mem_singleton.mp hb]; exact Nat.ne_of_gt hPlt) e
  · intro b hb; rw [List.mem_singleton.mp hb]; exact hIs'
  · intro hm
    have : cStatics = s'.heap.objs.size := List.mem_singleton.mp hm
    obtain ⟨_, hns, _⟩ := hlim
    obtain ⟨o9, _, _, e9, _⟩ := hns
    have h9 := Heap.lt_size (F.keep _ _ e9)
    exact absurd this (Nat.ne_of_lt h9)
  · intro href hk
    refine ⟨fun A' E' i v s₂ m₂ _ _ _ _ _ _ _ => wpAny_pure ⟨rfl, s₂.heap, s₂.toks, rfl, fun _ _ e => e⟩, fun A' E' i v s₂ m₂ hA _ _ hv _ hn hm hkp => ?_⟩
    refine helt A' E' i v s₂ m₂ _ code hA hv hn hm fun b o' hb e => ?_
    have e2 := k2 b o' hb e
    refine hkp b (List.mem_range.mpr (Heap.lt_size e2)) ?_ o' (hk _ _ e2)
    rw [List.mem_singleton]
    exact Nat.ne_of_lt (Heap.lt_size e)
  · intro a h₅ tk gs hgb hag hsz5 hk5 W5 hat
    have hpass : passing (fun _ => true) y.cps.size 0 = List.range y.cps.size := by simp [passing]
    rw [hpass] at W5
    have W6 := W5.imp (P' := FF) (fun j z hz => by
      obtain ⟨i, hi, hf⟩ := hz
      have : i = j := by
        have := List.getElem?_eq_some_iff.mp hi
        obtain ⟨h1, h2⟩ := this
        simp at h2; omega
      subst this; exact hf)
    rw [List.length_range] at W6
    refine hQ a h₅ tk gs oT' _ _ _ hT' hgb (hk5 _ _ hP') (fun b o' hb e => hk5 _ _ (k2 b o' hb e)) ?_ W6 hat
    intro b hb
    rcases List.mem_cons.mp hb with rfl | hb
    · exact Nat.le_of_lt hIs'
    · rw [List.mem_singleton.mp hb]; exact Nat.le_refl _
end
end Mine
end
/-! part Vpv -/
section
theorem Mine.startVpv : True := by
  w_top off
  exact trivial
open PySem PySem.W PyProof.Rows PySem.Calls PySem.Spec
set_option Elab.async false
set_option maxRecDepth 100000
namespace Mine
section Vpv
open RX
theorem fr_but {G h h' : Heap} {L P : Addr} {m : Str → Option Value} (hPL : P ≠ L) (hG : G.get? P = none) (F : Fr G L h m) (k : ∀ b o, b ≠ P → h.get? b = some o → h'.get? b = some o) : Fr G L h' m := by
  obtain ⟨o, es, ep, e, r⟩ := F.ns
  exact ⟨⟨o, es, ep, k _ _ (Ne.symm hPL) e, r⟩, fun b o e => k b o (fun q => by rw [q, hG] at e; cases e) (F.keep b o e), F.above⟩
theorem news_but {G h h' : Heap} {L P : Addr} {news : List (Addr × Obj)} {oT oT' : Obj} {g : Obj → List (Addr × Obj)} (U : UpdF P oT news g) (N : News G L h news) (k : ∀ b o, b ≠ P → h.get? b = some o → h'.get? b = some o) (hP : h'.get? P = some oT') : News G L h' (g oT') := by
  obtain ⟨pre, post, rfl, hg, h1, h2⟩ := U.split
  have hm := N (P, oT) (List.mem_append.mpr (.inr (.head _)))
  rw [hg]
  intro q hq
  rcases List.mem_append.mp hq with hq | hq
  · have := N q (List.mem_append.mpr (.inl hq))
    exact ⟨k _ _ (h1 q hq) this.1, this.2⟩
  · rcases List.mem_cons.mp hq with rfl | hq
    · exact ⟨hP, hm.2⟩
    · have := N q (List.mem_append.mpr (.inr (.tail _ hq)))
      exact ⟨k _ _ (h2 q hq) this.1, this.2⟩
theorem news_cons_upd {a P : Addr} {o oT : Obj} {news : List (Addr × Obj)} {g : Obj → List (Addr × Obj)} (hne : a ≠ P) (U : UpdF P oT news g) : UpdF P oT ((a, o) :: news) (fun x => (a, o) :: g x) := .tail hne U
theorem fr_low {G h h' : Heap} {L n : Addr} {m : Str → Option Value} (hG : ∀ b o, G.get? b = some o → b < n) (hL : L < n) (F : Fr G L h m) (k : ∀ b o, b < n → h.get? b = some o → h'.get? b = some o) : Fr G L h' m := by
  obtain ⟨o, es, ep, e, r⟩ := F.ns
  exact ⟨⟨o, es, ep, k _ _ hL e, r⟩, fun b o e => k b o (hG b o e) (F.keep b o e), F.above⟩
theorem news_low {G h h' : Heap} {L n : Addr} {news : List (Addr × Obj)} (hn : ∀ q ∈ news, q.1 < n) (N : News G L h news) (k : ∀ b o, b < n → h.get? b = some o → h'.get? b = some o) : News G L h' news := fun q hq => ⟨k _ _ (hn q hq) (N q hq).1, (N q hq).2⟩
theorem upd_addr {d : Addr} {o : Obj} {l : List (Addr × Obj)} {g : Obj → List (Addr × Obj)} (U : UpdF d o l g) (o' : Obj) : ∀ q ∈ g o', ∃ o2, (q.1, o2) ∈ l := by
  obtain ⟨pre, post, rfl, hg, h1, h2⟩ := U.split
  intro q hq
  rw [hg] at hq
  rcases List.mem_append.mp hq with hq | hq
  · exact ⟨q.2, List.mem_append.mpr (.inl hq)⟩
  · rcases List.mem_cons.mp hq with rfl | hq
    · exact ⟨o, List.mem_append.mpr (.inr (.head _))⟩
    · exact ⟨q.2, List.mem_append.mpr (.inr (.tail _ hq))⟩
theorem isCode_of {K : Frag} {c P : Addr} {vs : Array Value} {sl : Array (Option Value)} {file : Str} {tf tg tt : Tok} {flags text : Int} {inF : Bool} (hl : K.lookup c = some ⟨.type "code", none, .fields vs, sl⟩) (h11 : vs.getD 11 .none = .ref P) (h18 : vs.getD 18 .none = .str file tf)
    (h7 : vs.getD 7 .none = .int flags tg) (h9 : vs.getD 9 .none = .bool inF) (h10 : vs.getD 10 .none = .int text tt) (hne : c ≠ P) {h : Heap} (X : K.In h) {o : Obj} {ps : Array Value} (ho : h.get? P = some o) (hd : o.data = .fields ps) (ht : TriplesOk ps.toList) : h.IsCode c P ps :=
  ⟨_, vs, file, tf, flags, tg, inF, text, tt, o, X _ _ hl, rfl, h11, h18, h7, h9, h10, ho, hd, ht, hne⟩
theorem code220 {P : Params} {h : Heap} (X : (K0 P).In h) {o : Obj} {ps : Array Value} (ho : h.get? 216 = some o) (hd : o.data = .fields ps) (ht : TriplesOk ps.toList) : h.IsCode 220 216 ps :=
  isCode_of (K := K0 P) rfl rfl rfl rfl rfl rfl (by decide) X ho hd ht
local macro_rules | `(tactic| k_room) => `(tactic| ktr_room)
local macro_rules | `(tactic| k_units) => `(tactic| ktr_units)
local macro_rules | `(tactic| k_all) => `(tactic| assumption)
local macro_rules | `(tactic| walk_at "eval GeneratorExp") => `(tactic| refine TEnd.out ?_)
set_option pp.deepTerms false
set_option pp.maxSteps 3000
set_option maxHeartbeats 4000000 in
theorem vpv_w {w : World} {mean : ExcName → Option Value} {mg mb : Str → Option Value}
    {dp un : Nat} {gd : Option (List Code)} {cn : Str} {nms : List (Str × NameKind)} {ig ic : Bool} {mo : List (Str × Const)} {a : Addr} {ccd : Value} {cl : List (Str × Addr)} {outer : List Env} {A₀ : Around} {base h₀ : Heap} {L : Addr} {m : Str → Option Value} {s : Shared}
    {Q E : Value → Shared → Prop} {news : List (Addr × Obj)} {args : Args} {y : Str} {t : Tok} {x : List Nat} {b : Bool} {oT : Obj} {g : Obj → List (Addr × Obj)}
    (B : Below A₀ base outer h₀) (F : Fr h₀ L s.heap m) (X : (K0 w.params).In h₀) (N : News h₀ L s.heap news) (T : Top hd.view_39 loos mean mg mb h₀) (G : AllBare s.gens)
    (hb : BindsTo s (fdAt (K0 w.params) 221) args [(Str.ofString "value", .str y t), (Str.ofString "quoted", .bool b)])
    (U : UpdF 216 oT news g) (hT : TabLike oT) (hy : y = S x) (hno : ∀ c ∈ x, NoHit (if b then qunsafeCode else unsafeCode) c)
    (hx : y.length ≤ 1000) (hd1 : dp + 20 < recursionLimit) (hu1 : un + 400 < cLine)
    (hret : ∀ h' tk' gs' oT', TabLike oT' → AllBare gs' → Fr h₀ L h' m → News h₀ L h' (g oT') → Q .none { s with heap := h', toks := tk', gens := gs' }) :
    codeAny (model PySem.Challenge.rw_bl0007_01.row.prog w) (cal dp un gd cn nms ig ic mo L a ccd cl outer) (.call (.ref 221) args) (fun r s' => match r with | .ok (.ret v) => Q v s' | .ok _ => False | .error e => E e s') s := by
  revert X; k_fill; intro X
  k_dflt (refine' code_defC (binds := [(Str.ofString "value", .str y t), (Str.ofString "quoted", .bool b)]) ?k1 ?k2 ?k3 ?k4 ?k5 ?kA ?kF ?kK ?k6 ?k7 ?k8 ?k9 ?kB ?kD ?_ ?c2 ?c3 ?c4; (case kA => exact rfl); (case kF => exact rfl); (case kK => exact rfl); (case k1 => k_asm); (case k2 => k_asm); (case k3 => k_asm); (case k4 => k_asm); (case k5 => k_asm); (case k6 => k_is); (case k7 => k_is); (case k8 => k_room); (case k9 => exact hb); (case kB => exact rfl); (case kD => decide +kernel); (case c2 => exact rfl); (case c3 => exact rfl); (case c4 => exact rfl); k_whole; intro g' L' h' tk' cells' FG' F' N' Y' B' X' T' l1; (try k_lt l1); k_cells Y'; (try simp only [List.cons_append, List.nil_append] at N'); (try dsimp only); (try k_lift B'); (try k_fold))
  have hlt : ∀ p ∈ news, p.1 ≠ L' + 1 := by
    intro p hp
    have h1 : p.1 < L' := l1 p hp
    exact Nat.ne_of_lt (Nat.lt_succ_of_lt h1)
  have hG216 : g'.get? 216 = none := (N' _ (.tail _ (updF_mem U))).2.2
  have h216L : (216 : Addr) ≠ L' := (N' _ (.tail _ (updF_mem U))).2.1
  obtain ⟨bm, ob, M⟩ := bmod_of_top T'
  have hne9 : (L' + 1 : Addr) ≠ 216 := fun e => by
    have h1 : (216 : Nat) < L' := l1 _ (updF_mem U)
    exact absurd e (Nat.ne_of_gt (Nat.lt_succ_of_lt h1))
  k_steps
  · rename_i F9 N9 d9
    have hN216 := (N9 _ (.tail _ (updF_mem U))).1
    refine TEnd.mk ?_
    refine gen_text (G := g') (L := L') (c := 220) (P := 216) (y := y) (t := t) (cl := [(Str.ofString "validator", L' + 1)]) (FF := fun _ v => v = .none) F9 hG216 h216L M T'.nolimit (fun h o ps k e1 e2 e3 => code220 (X'.keeps k) e1 e2 e3) hN216 hT rfl rfl rfl rfl (by decide) rfl rfl rfl (by k_room) ?_ ?_ ?_ ?_
    · k_steps
    · rintro A' E' i v s₂ m₂ C code hA ⟨c, u, hc, rfl⟩ hn hm hk
      have k9 : ∀ b o, g'.get? b = some o → s₂.heap.get? b = some o := fun b o e => hk b o (fun q => by rw [q, hG216] at e; cases e) (F9.keep b o e)
      have hb1 : b = true := by assumption
      have hnc := hno c (by rw [hy] at hc; exact List.mem_of_getElem? (by simpa [S] using hc))
      rw [hb1] at hnc
      exact elt_match (cenv := genEnv _ [(Str.ofString "validator", L' + 1)] C code builtinsNs _) hn hm rfl rfl rfl rfl ⟨_, hk _ _ hne9 (N9 _ (.head _)).1, d9⟩ (pat_qunsafe (X'.keeps k9)) hnc (fun _ => rfl)
    · intro a9 h9 tk9 gs9 oT9 I9 wr9 St9 hT9 hgb9 hP9 hk9 hwr9 W9 hst9
      have F10 := fr_but h216L hG216 F9 hk9
      have N10 := news_but (news_cons_upd hne9 U) N9 hk9 hP9
      have hgs9 : AllBare (s.gens.push gs9) := G.push hgb9
      have low : ∀ b o, g'.get? b = some o → b < _ := fun b o e => Heap.lt_size (F9.keep b o e)
      have lowN : ∀ q ∈ (L' + 1, _) :: g oT9, q.1 < _ := fun q hq => by
        obtain ⟨o8, e8⟩ := upd_addr (news_cons_upd (o := _) hne9 U) oT9 q hq
        exact Heap.lt_size (N9 _ e8).1
      have lowL := F9.ns.lt
      clear hk9
      k_steps
      refine call_any_walkS ((W9.in4_1).self 0 _ _ _ hst9 ⟨a9, _, _, _, _, _, _, fun _ => false, rfl, W9.in4_1, hst9, fun j v s Q E hv hQ => by subst hv; exact wpAny_of_eq rfl hQ, fun s8 hm8 => ?_⟩)
      have hany : ((List.range y.cps.size).any fun _ => false) = false := by simp
      rw [hany]
      obtain ⟨h8, g8, d8, t8, os8⟩ := s8
      have hd8 := hm8.drawn
      have ho8 := hm8.os
      have hG8 := hgs9.movedS hm8
      dsimp only at hd8 ho8 hG8
      subst hd8 ho8
      have hb8 : ∀ b o, b < _ → h9.get? b = some o → h8.get? b = some o := fun b o hlt e => hm8.heap b o (fun hw => absurd (hwr9 b hw) (Nat.not_le_of_lt hlt)) e
      have F11 := fr_low low lowL F10 hb8
      have N11 := news_low lowN N10 hb8
      clear F10 N10
      k_steps
      have kN8 := (by assumption : News h₀ L h8 ((L' + 1, _) :: g oT9))
      exact hret h8 t8 g8 oT9 hT9 hG8 (by assumption) (fun q hq => kN8 q (.tail _ hq))
    · intro _; rfl
  · rename_i F9 N9 d9
    have hN216 := (N9 _ (.tail _ (updF_mem U))).1
    refine TEnd.mk ?_
    refine gen_text (G := g') (L := L') (c := 220) (P := 216) (y := y) (t := t) (cl := [(Str.ofString "validator", L' + 1)]) (FF := fun _ v => v = .none) F9 hG216 h216L M T'.nolimit (fun h o ps k e1 e2 e3 => code220 (X'.keeps k) e1 e2 e3) hN216 hT rfl rfl rfl rfl (by decide) rfl rfl rfl (by k_room) ?_ ?_ ?_ ?_
    · k_steps
    · rintro A' E' i v s₂ m₂ C code hA ⟨c, u, hc, rfl⟩ hn hm hk
      have k9 : ∀ b o, g'.get? b = some o → s₂.heap.get? b = some o := fun b o e => hk b o (fun q => by rw [q, hG216] at e; cases e) (F9.keep b o e)
      have hb1 : b = false := by assumption
      have hnc := hno c (by rw [hy] at hc; exact List.mem_of_getElem? (by simpa [S] using hc))
      rw [hb1] at hnc
      exact elt_match (cenv := genEnv _ [(Str.ofString "validator", L' + 1)] C code builtinsNs _) hn hm rfl rfl rfl rfl ⟨_, hk _ _ hne9 (N9 _ (.head _)).1, d9⟩ (pat_unsafe (X'.keeps k9)) hnc (fun _ => rfl)
    · intro a9 h9 tk9 gs9 oT9 I9 wr9 St9 hT9 hgb9 hP9 hk9 hwr9 W9 hst9
      have F10 := fr_but h216L hG216 F9 hk9
      have N10 := news_but (news_cons_upd hne9 U) N9 hk9 hP9
      have hgs9 : AllBare (s.gens.push gs9) := G.push hgb9
      have low : ∀ b o, g'.get? b = some o → b < _ := fun b o e => Heap.lt_size (F9.keep b o e)
      have lowN : ∀ q ∈ (L' + 1, _) :: g oT9, q.1 < _ := fun q hq => by
        obtain ⟨o8, e8⟩ := upd_addr (news_cons_upd (o := _) hne9 U) oT9 q hq
        exact Heap.lt_size (N9 _ e8).1
      have lowL := F9.ns.lt
      clear hk9
      k_steps
      refine call_any_walkS ((W9.in4_1).self 0 _ _ _ hst9 ⟨a9, _, _, _, _, _, _, fun _ => false, rfl, W9.in4_1, hst9, fun j v s Q E hv hQ => by subst hv; exact wpAny_of_eq rfl hQ, fun s8 hm8 => ?_⟩)
      have hany : ((List.range y.cps.size).any fun _ => false) = false := by simp
      rw [hany]
      obtain ⟨h8, g8, d8, t8, os8⟩ := s8
      have hd8 := hm8.drawn
      have ho8 := hm8.os
      have hG8 := hgs9.movedS hm8
      dsimp only at hd8 ho8 hG8
      subst hd8 ho8
      have hb8 : ∀ b o, b < _ → h9.get? b = some o → h8.get? b = some o := fun b o hlt e => hm8.heap b o (fun hw => absurd (hwr9 b hw) (Nat.not_le_of_lt hlt)) e
      have F11 := fr_low low lowL F10 hb8
      have N11 := news_low lowN N10 hb8
      clear F10 N10
      k_steps
      have kN8 := (by assumption : News h₀ L h8 ((L' + 1, _) :: g oT9))
      exact hret h8 t8 g8 oT9 hT9 hG8 (by assumption) (fun q hq => kN8 q (.tail _ hq))
    · intro _; rfl
end Vpv
end Mine
end
/-! part Lcr -/
section
theorem Mine.startLcr : True := by
  w_top off
  exact trivial
open PySem PySem.W PyProof.Rows PySem.Calls PySem.Spec
set_option Elab.async false
set_option maxRecDepth 100000
namespace Mine
section
variable {prog : Program} {w : World} {A : Around} {h₀ : Heap} {L : Addr} {m : Str → Option Value} {env : Env} {elt : Expr} {x : Str} {scope : Scope} {cl : List (Str × Addr)} {s : Shared} {S : List (Addr × Obj) → Prop} {P : Nat → Value → Prop} {Fin : List Value → List (Addr × Obj) → Prop}
/-- the turns of a list comprehension by an invariant -/
theorem rest_inv {n : Nat} (Inv : Nat → List Value → List (Addr × Obj) → Prop)
    (turn : ∀ i ys news v I oI C oC D m₂ h tk (E' : Value → Shared → Prop), i < n → Inv i ys news → P i v → LCg.NsObj oC m₂ → m₂ x = some v → Fr h₀ L h m → News h₀ L h ((I, oI) :: (C, oC) :: (D, LCg.lst ys) :: news) → LCg.Off3 I C D news → ((@Ne Nat I C) ∧ (@Ne Nat I D) ∧ (@Ne Nat C D)) →
      wpAny (model prog w) A (eval elt (compEnvC scope cl C env)) (LCg.CompEnd h₀ L m { s with heap := h, toks := tk } I oI C oC D (LCg.lst ys) S (fun y news' => Inv (i + 1) (ys ++ [y]) news')) E' { s with heap := h, toks := tk })
    (fin : ∀ ys news, Inv n ys news → Fin ys news) : ∀ k i ys news, i + k = n → Inv i ys news → LCg.CompRest prog w A h₀ L m env elt x scope cl s S P Fin k i ys news := by
  intro k
  induction k with
  | zero =>
    intro i ys news e hI
    have : i = n := by omega
    subst this
    exact LCg.CompRest.zero (fin _ _ hI)
  | succ k ih =>
    intro i ys news e hI
    refine LCg.CompRest.succ ?_
    intro v I oI C oC D m₂ h tk E' hv hC hx F N off ne
    refine wpAny_mono (turn i ys news v I oI C oC D m₂ h tk E' (by omega) hI hv hC hx F N off ne) (fun y s₂ hq => ?_) fun _ _ e => e
    obtain ⟨h', tk', nw, e', F', N', off', hS, hI'⟩ := hq
    exact ⟨h', tk', nw, e', F', N', off', hS, ih (i + 1) _ _ (by omega) hI'⟩
theorem strs_at : ∀ {vs : List Value} {xs : List Str}, StrsAre vs xs → ∀ (i : Nat) (v : Value), vs[i]? = some v → ∃ x t, xs[i]? = some x ∧ v = .str x t
  | _, _, .cons y t _, 0, v, e => ⟨y, t, rfl, by simpa using e.symm⟩
  | _, _, .cons _ _ r, i + 1, v, e => by simpa using strs_at r i v (by simpa using e)
theorem strs_len : ∀ {vs : List Value} {xs : List Str}, StrsAre vs xs → vs.length = xs.length
  | _, _, .nil => rfl
  | _, _, .cons _ _ r => by simp [strs_len r]
theorem strs_snoc1 {y : Str} {t : Tok} : ∀ {vs : List Value} {xs : List Str}, StrsAre vs xs → StrsAre (vs ++ [.str y t]) (xs ++ [y])
  | _, _, .nil => .cons y t .nil
  | _, _, .cons z u r => .cons z u (strs_snoc1 r)
end
end Mine
end
/-! part Ltext -/
section
theorem Mine.startLtext : True := by
  w_top off
  exact trivial
local macro_rules | `(tactic| walk_at "pad0") => `(tactic| skip)
local macro_rules | `(tactic| walk_at "pad1") => `(tactic| skip)
open PySem PySem.W PyProof.Rows PySem.Calls PySem.Spec
set_option Elab.async false
set_option pp.deepTerms false
set_option pp.maxSteps 3000
set_option maxRecDepth 100000
namespace Mine
theorem off1_mem {D : Addr} : ∀ {l : List (Addr × Obj)}, LCg.Off1 D l → ∀ p ∈ l, p.1 ≠ D
  | [], _, _, h => nomatch h
  | _ :: _, x, p, h => by
    rcases List.mem_cons.mp h with rfl | h
    · exact x.1
    · exact off1_mem x.2 p h
theorem updF_other {d : Addr} {o : Obj} {l : List (Addr × Obj)} {g : Obj → List (Addr × Obj)} (U : UpdF d o l g) {p : Addr × Obj} (hp : p ∈ l) (hn : p.1 ≠ d) (o' : Obj) : p ∈ g o' := by
  obtain ⟨pre, post, rfl, hg, _, _⟩ := U.split
  rw [hg]
  rcases List.mem_append.mp hp with h | h
  · exact List.mem_append.mpr (.inl h)
  · rcases List.mem_cons.mp h with rfl | h
    · exact absurd rfl hn
    · exact List.mem_append.mpr (.inr (.tail _ h))
theorem updF_self {d : Addr} {o : Obj} {l : List (Addr × Obj)} {g : Obj → List (Addr × Obj)} (U : UpdF d o l g) (o' : Obj) : (d, o') ∈ g o' := by
  obtain ⟨pre, post, rfl, hg, _, _⟩ := U.split
  rw [hg]; simp
theorem updF_addr {d : Addr} {o : Obj} {l : List (Addr × Obj)} {g : Obj → List (Addr × Obj)} (U : UpdF d o l g) (o1 o2 : Obj) : ∀ p ∈ g o2, ∃ q, (p.1, q) ∈ g o1 := by
  obtain ⟨pre, post, rfl, hg, _, _⟩ := U.split
  intro p hp
  rw [hg] at hp ⊢
  rcases List.mem_append.mp hp with h | h
  · exact ⟨p.2, List.mem_append.mpr (.inl h)⟩
  · rcases List.mem_cons.mp h with rfl | h
    · exact ⟨o1, by simp⟩
    · exact ⟨p.2, List.mem_append.mpr (.inr (.tail _ h))⟩
theorem updF_of : ∀ {pre post : List (Addr × Obj)} {d : Addr} {o : Obj} {g : Obj → List (Addr × Obj)}, (∀ o', g o' = pre ++ (d, o') :: post) → (∀ p ∈ pre, p.1 ≠ d) → (∀ p ∈ post, p.1 ≠ d) → UpdF d o (pre ++ (d, o) :: post) g
  | [], post, d, o, g, hg, _, h2 => by
    have : g = fun x => (d, x) :: post := funext hg
    subst this
    exact .head h2
  | p :: pre, post, d, o, g, hg, h1, h2 => by
    have : g = fun x => p :: (pre ++ (d, x) :: post) := funext hg
    subst this
    exact .tail (h1 p (.head _)) (updF_of (g := fun x => pre ++ (d, x) :: post) (fun _ => rfl) (fun q hq => h1 q (.tail _ hq)) h2)
theorem updF_again {d : Addr} {o : Obj} {l : List (Addr × Obj)} {g : Obj → List (Addr × Obj)} (U : UpdF d o l g) (o' : Obj) : UpdF d o' (g o') g := by
  obtain ⟨pre, post, rfl, hg, h1, h2⟩ := U.split
  rw [hg]
  exact updF_of hg h1 h2
section Ltext
local macro_rules | `(tactic| k_room) => `(tactic| ktr_room)
local macro_rules | `(tactic| k_units) => `(tactic| ktr_units)
local macro_rules | `(tactic| k_all) => `(tactic| assumption)
local macro_rules | `(tactic| walk_at "call ref") => `(tactic| refine TEnd.out ?_)
local macro_rules | `(tactic| walk_at "subscriptTail") => `(tactic| refine TEnd.out ?_)
local macro_rules | `(tactic| walk_at "CompSrc") => `(tactic| refine TEnd.out ?_)
local macro_rules | `(tactic| walk_at "eval ListComp") => `(tactic| refine TEnd.out ?_)
set_option maxHeartbeats 4000000 in
theorem ltext_w {w : World} {mean : ExcName → Option Value} {mg mb : Str → Option Value}
    {dp un : Nat} {gd : Option (List Code)} {cn : Str} {nms : List (Str × NameKind)} {ig ic : Bool} {mo : List (Str × Const)} {a : Addr} {ccd : Value} {cl : List (Str × Addr)} {outer : List Env} {A₀ : Around} {base h₀ : Heap} {L : Addr} {m : Str → Option Value} {s : Shared}
    {Q E : Value → Shared → Prop} {st sc gm : Addr} {vs : List Value} {ns : List Int} {n2 : Nat} {news : List (Addr × Obj)} {o : Obj} {g : Obj → List (Addr × Obj)} {menu : List Value} {xs : List Str}
    (B : Below A₀ base outer h₀) (F : Fr h₀ L s.heap m) (X : (K0 w.params).In h₀) (N : News h₀ L s.heap news) (T : Top hd.view_39 loos mean mg mb h₀)
    (U : UpdF st o news g) (hS : StObj sc o) (hsc : (sc, listOf vs.toArray n2) ∈ news) (hI : IntsAre vs ns) (hl : ns.length ≤ 30) (hne : @Ne Nat sc st) (hmenu : h₀.IsList gm menu.toArray) (hx : StrsAre menu xs) (hxl : 0 < xs.length) (hxl2 : xs.length < 100)
    (hd1 : dp + 40 < recursionLimit) (hu1 : un + 800 < cLine)
    (hret : ∀ (l : Addr) (n : Nat) (ys : List Value) (zs : List Str) (o' : Obj) (h' : Heap) (tk' : Nat), StrsAre ys zs → zs.length ≤ 4 → (∀ z ∈ zs, z ∈ xs) → StObj sc o' → Fr h₀ L h' m → News h₀ L h' ((l, LCg.lst ys) :: g o') → (∀ p ∈ g o', p.1 ≠ l) → Q (.ref l) { s with heap := h', toks := tk' }) :
    wpAny (model PySem.Challenge.rw_bl0007_01.row.prog w) (cal dp un gd cn nms ig ic mo L a ccd cl outer) (call (.ref 413) [.ref st, .ref gm]) Q E s := by
  revert X; k_fill; intro X
  refine wpAny_call ?_
  k_dflt (refine' code_defC (binds := [(Str.ofString "state", .ref st), (Str.ofString "signs", .ref gm)]) ?k1 ?k2 ?k3 ?k4 ?k5 ?kA ?kF ?kK ?k6 ?k7 ?k8 ?k9 ?kB ?kD ?_ ?c2 ?c3 ?c4; (case kA => exact rfl); (case kF => exact rfl); (case kK => exact rfl); (case k1 => k_asm); (case k2 => k_asm); (case k3 => k_asm); (case k4 => k_asm); (case k5 => k_asm); (case k6 => k_is); (case k7 => k_is); (case k8 => k_room); (case k9 => exact BindsTo.of_eq rfl); (case kB => exact rfl); (case kD => decide +kernel); (case c2 => exact rfl); (case c3 => exact rfl); (case c4 => exact rfl); k_whole; intro g' L' h' tk' cells' FG' F' N' Y' B' X' T' l1; (try k_lt l1); k_cells Y'; (try simp only [List.cons_append, List.nil_append] at N'); (try dsimp only); (try k_lift B'); (try k_fold))
  have hscg : ∀ o', (sc, listOf vs.toArray n2) ∈ g o' := fun o' => updF_other U hsc hne o'
  k_steps
  rename_i oc1 oc2 hc1 hc2
  refine TEnd.mk ?_
  refine LCg.ListComp_U (F₀ := F') (by rfl) (by decide) (by rfl) (by decide) (by rfl) ?_
  have hstm := updF_mem U
  have hc1n : @Ne Nat (L' + 1 + 1) st := Nat.ne_of_gt (Nat.lt_of_lt_of_le (l1 _ hstm) (by omega))
  have hc2n : @Ne Nat (L' + 1) st := Nat.ne_of_gt (Nat.lt_of_lt_of_le (l1 _ hstm) (by omega))
  have U' : UpdF st o ((L' + 1 + 1, oc1) :: (L' + 1, oc2) :: news) (fun x => (L' + 1 + 1, oc1) :: (L' + 1, oc2) :: g x) := .tail hc1n (.tail hc2n U)
  k_steps
  refine TEnd.mk ?_
  refine next_c B' F' X' N' T' U' hS (.tail _ (.tail _ hsc)) hI hl hne (by decide) (by decide) (by show dp + 1 + 20 < _; omega) (by show un + 3 + 400 < _; omega) ?_
  intro r t1 o1 h1 tk1 hr0 hr5 hS1 F1 N1
  dsimp only at N1 ⊢
  k_steps
  refine TEnd.mk ?_
  rename_i h2 tk2 ta tb tc hR F2 N2 k2
  obtain ⟨om, hom1, hom2⟩ := hmenu
  have hmenu' : g'.IsList gm menu.toArray := ⟨om, FG'.keep _ _ hom1, hom2⟩
  have hml : menu.length = xs.length := strs_len hx
  refine LCg.CompSrc.range rfl F2 N2 hR (small_one (by omega) (by omega) (by omega) (by omega)) (rangeSize_nat _ _) (by rw [PySem.sizeLine_eq]; omega) fun gg => ?_
  have hn4 : ((r - 0).toNat) ≤ 4 := by omega
  refine rest_inv (n := (r - 0).toNat) (fun i ys nw => ∃ zs oc, StrsAre ys zs ∧ zs.length = i ∧ (∀ z ∈ zs, z ∈ xs) ∧ StObj sc oc ∧ nw = (L' + 1 + 1, oc1) :: (L' + 1, oc2) :: g oc) ?_ ?_ _ 0 [] _ (Nat.zero_add _) ⟨[], o1, .nil, rfl, (fun _ h => nomatch h), hS1, rfl⟩
  · rintro i ys nw v I oI C oC D m₂ h tk E' hi ⟨zs, oc, hzs, hzl, hzm, hSc, rfl⟩ hv hC hx' F3 N3 off ne
    have off' := off.mem
    have hzs0 : TEnd (StrsAre ys zs) := ⟨hzs⟩
    have U3 : UpdF st oc ((I, oI) :: (C, oC) :: (D, LCg.lst ys) :: (L' + 1 + 1, oc1) :: (L' + 1, oc2) :: g oc) (fun x => (I, oI) :: (C, oC) :: (D, LCg.lst ys) :: (L' + 1 + 1, oc1) :: (L' + 1, oc2) :: g x) := by
      have hq := updF_self U oc
      have hst3 := off' (st, oc) (by simp [hq])
      exact .tail (Ne.symm hst3.1) (.tail (Ne.symm hst3.2.1) (.tail (Ne.symm hst3.2.2) (.tail hc1n (.tail hc2n (updF_again U oc)))))
    k_steps
    refine TEnd.mk ?_
    refine next_c B' F3 X' N3 T' U3 hSc (by first | exact .tail _ (.tail _ (.tail _ (.tail _ (.tail _ (hscg oc)))))) hI hl hne (by omega) (by omega) (by show dp + 1 + 20 < _; omega) (by show un + 3 + 400 < _; omega) ?_
    intro r2 t2 o2 h4 tk4 hr20 hr2 hS2 F4 N4
    dsimp only at N4 ⊢
    k_steps
    refine TEnd.mk ?_
    have hr3 : r2.toNat < menu.length := by omega
    obtain ⟨z, tz, hz, hv2⟩ := strs_at hx r2.toNat menu[r2.toNat] (List.getElem?_eq_getElem hr3)
    refine tail_any (Heap.IsList.typeIs ⟨om, F4.keep _ _ (FG'.keep _ _ hom1), hom2⟩) slot_list_getitem.lookup (wpAny_getItem_list ⟨om, F4.keep _ _ (FG'.keep _ _ hom1), hom2⟩ hr20 (by omega) ((List.getElem?_toArray ..).trans (List.getElem?_eq_getElem hr3)) ?_) (by with_unfolding_all rfl)
    rw [hv2]
    refine LCg.CompEnd.intro F4 N4 _ (fun p hp => hp) ?_ True.intro ⟨zs ++ [z], o2, strs_snoc1 hzs0.out, by simp [hzl], ?_, hS2, rfl⟩
    · refine LCg.Off3.of fun p hp => ?_
      simp only [List.mem_cons] at hp
      rcases hp with h | h | h
      · exact off' p (by simp [h])
      · exact off' p (by simp [h])
      · obtain ⟨q, hq⟩ := updF_addr U oc o2 p h
        exact off' (p.1, q) (by simp [hq])
    · intro q hq
      rcases List.mem_append.mp hq with hq | hq
      · exact hzm q hq
      · rw [List.mem_singleton.mp hq]; exact List.mem_of_getElem? hz
  · rintro ys nw ⟨zs, oc, hzs, hzl, hzm, hSc, rfl⟩
    intro D h tk F3 N3 off1
    have hzs0 : TEnd (StrsAre ys zs) := ⟨hzs⟩
    k_steps
    refine hret D 0 ys zs oc _ _ hzs0.out (by omega) hzm hSc (by assumption) (fun p hp => (by assumption : News h₀ L h _) p ?_) fun p hp => off1_mem off1 p (by simp [hp])
    rcases List.mem_cons.mp hp with h | h
    · simp [h]
    · simp [h]
end Ltext
end Mine
end
/-! part Ulos -/
section
theorem Mine.startUlos : True := by
  w_top off
  exact trivial
local macro_rules | `(tactic| walk_at "pad0") => `(tactic| skip)
local macro_rules | `(tactic| walk_at "pad1") => `(tactic| skip)
local macro_rules | `(tactic| walk_at "pad2") => `(tactic| skip)
local macro_rules | `(tactic| walk_at "pad3") => `(tactic| skip)
local macro_rules | `(tactic| walk_at "pad4") => `(tactic| skip)
local macro_rules | `(tactic| walk_at "pad5") => `(tactic| skip)
local macro_rules | `(tactic| walk_at "pad6") => `(tactic| skip)
open PySem PySem.W PyProof.Rows PySem.Calls PySem.Spec
set_option Elab.async false
set_option pp.deepTerms false
set_option pp.maxSteps 3000
set_option maxRecDepth 100000
namespace Mine
/-- what _unescape_string gives -/
def unT (x : Str) : Str := Txt.replace (Txt.replace (Txt.replace (Txt.replace (Txt.replace x (Str.ofString "%2C") (Str.ofString ",")) (Str.ofString "%3A") (Str.ofString ":")) (Str.ofString "%3B") (Str.ofString ";")) (Str.ofString "%5C") (Str.ofString "\\")) (Str.ofString "%25") (Str.ofString "%")
section Ulos
local macro_rules | `(tactic| k_room) => `(tactic| ktr_room)
local macro_rules | `(tactic| k_units) => `(tactic| ktr_units)
local macro_rules | `(tactic| k_all) => `(tactic| assumption)
local macro_rules | `(tactic| walk_at "call ref") => `(tactic| refine TEnd.out ?_)
local macro_rules | `(tactic| walk_at "eval ListComp") => `(tactic| refine TEnd.out ?_)

set_option maxHeartbeats 4000000 in
theorem ulos_s {w : World} {mean : ExcName → Option Value} {mg mb : Str → Option Value} {A : Around} {s : Shared} {Q E : Value → Shared → Prop} {x : Str} {t : Tok}
    (X : (K0 w.params).In s.heap) (T : Top hd.view_39 loos mean mg mb s.heap) (hd1 : A.depth + 20 < recursionLimit) (hx : x.length ≤ 1000)
    (hret : ∀ t' h' tk', (∀ b o, s.heap.get? b = some o → h'.get? b = some o) → Q (.str (unT x) t') { s with heap := h', toks := tk' }) :
    wpAny (model PySem.Challenge.rw_bl0007_01.row.prog w) A (call (.ref 296) [.str x t]) Q E s := by
  revert X; k_fill; intro X
  refine wpAny_call ?_
  refine' plain_def (binds := [(Str.ofString "val", .str x t)]) X T ?ho ?hcd ?hroom ?hb ?hl ?_ ?c2 ?c3 ?c4 ?c5
  case ho => k_is
  case hcd => k_is
  case hroom => omega
  case hb => exact BindsTo.of_eq rfl
  case hl => exact locs rfl
  case c2 => rfl
  case c3 => rfl
  case c4 => rfl
  case c5 => decide
  intro L' h₁ tk0 htk F' N'
  dsimp only
  k_steps
  refine TEnd.mk ?_
  refine unesc_w (X.keeps F'.keep) (T.keeps F'.keep) (by show A.depth + 1 < _; omega) hx fun t' h' tk' hk => ?_
  have F2 := F'.keeps hk
  have N2 := N'.grown hk
  clear F' N'
  k_steps
  exact hret _ _ _ F2.keep

set_option maxHeartbeats 4000000 in
theorem ulos_l {w : World} {mean : ExcName → Option Value} {mg mb : Str → Option Value} {A : Around} {s : Shared} {Q E : Value → Shared → Prop} {l : Addr} {vs : List Value} {xs : List Str}
    (X : (K0 w.params).In s.heap) (T : Top hd.view_39 loos mean mg mb s.heap) (hd1 : A.depth + 20 < recursionLimit) (hh : A.handled = none) (hl : s.heap.IsList l vs.toArray) (hs : StrsAre vs xs) (hn : xs.length ≤ 1000) (hx : ∀ x ∈ xs, x.length ≤ 1000)
    (hret : ∀ D ys h' tk', (∀ b o, s.heap.get? b = some o → h'.get? b = some o) → s.heap.get? D = none → h'.get? D = some (LCg.lst ys) → StrsAre ys (xs.map unT) → Q (.ref D) { s with heap := h', toks := tk' }) :
    wpAny (model PySem.Challenge.rw_bl0007_01.row.prog w) A (call (.ref 296) [.ref l]) Q E s := by
  revert X; k_fill; intro X
  refine wpAny_call ?_
  refine' plain_def (binds := [(Str.ofString "val", .ref l)]) X T ?ho ?hcd ?hroom ?hb ?hl ?_ ?c2 ?c3 ?c4 ?c5
  case ho => k_is
  case hcd => k_is
  case hroom => omega
  case hb => exact BindsTo.of_eq rfl
  case hl => exact locs rfl
  case c2 => rfl
  case c3 => rfl
  case c4 => rfl
  case c5 => decide
  intro L' h₁ tk0 htk F' N'
  dsimp only
  k_steps
  refine TEnd.mk ?_
  refine LCg.ListComp_U (F₀ := F') (by rfl) (by decide) (by rfl) (by decide) (by rfl) ?_
  have hsz : vs.toArray.size = xs.length := by rw [List.size_toArray]; exact strs_len hs
  k_steps
  refine LCg.CompSrc.base hh F' N' hl (by rw [hsz]; exact Nat.le_trans hn (by decide)) fun g => ?_
  refine rest_inv (n := vs.toArray.size) (fun i ys news => news = [] ∧ StrsAre ys ((xs.take i).map unT)) ?_ ?_ _ 0 [] [] (Nat.zero_add _) ⟨rfl, .nil⟩
  · rintro i ys news v I oI C oC D m₂ h tk E' hi ⟨rfl, hys⟩ hv hC hx' F N off ne
    obtain ⟨x, t, hxi, rfl⟩ := strs_at hs i v (by simpa using hv)
    k_steps
    refine TEnd.mk ?_
    refine unesc_w (X.keeps F.keep) (T.keeps F.keep) (by show A.depth + 1 < _; omega) (hx x (List.mem_of_getElem? hxi)) fun t' h' tk' hk => ?_
    refine LCg.CompEnd.intro (F.keeps hk) (N.grown hk) [] (fun p hp => hp) True.intro (Or.inl hl) ⟨rfl, ?_⟩
    have h9 : (xs.take (i + 1)).map unT = (xs.take i).map unT ++ [unT x] := by rw [List.take_add_one, hxi]; simp
    rw [h9]
    exact strs_snoc1 hys
  · rintro ys news ⟨rfl, hys⟩
    rw [hsz, List.take_length] at hys
    intro D h tk F N _
    have hD := N _ (.head _)
    exact hret D ys h tk F.keep hD.2.2 hD.1 hys
end Ulos
end Mine
end
/-! part Dsub -/
section
theorem Mine.startDsub : True := by
  w_top off
  exact trivial
open PySem PySem.W PyProof.Rows PySem.Calls PySem.Spec
set_option Elab.async false
set_option maxRecDepth 100000
namespace Mine
/-- a table of text keys -/
inductive Ents : List DictEntry → List (Str × Value) → Prop
  | nil : Ents [] []
  | cons (x : Str) (t : Tok) (hs : Int) (v : Value) {es : List DictEntry} {kvs : List (Str × Value)} : Ents es kvs → Ents (⟨hs, .str x t, v⟩ :: es) ((x, v) :: kvs)
theorem Ents.len : ∀ {es : List DictEntry} {kvs : List (Str × Value)}, Ents es kvs → es.length = kvs.length
  | _, _, .nil => rfl
  | _, _, .cons _ _ _ _ r => by simp [r.len]
theorem Ents.all : ∀ {es : List DictEntry} {kvs : List (Str × Value)}, Ents es kvs → (es.all fun e => isExactStrKey e.key) = true
  | _, _, .nil => rfl
  | _, _, .cons _ _ _ _ r => by simp only [List.all_cons, r.all, Bool.and_true]; rfl
theorem Ents.snoc {x : Str} {t : Tok} {hs : Int} {v : Value} : ∀ {es : List DictEntry} {kvs : List (Str × Value)}, Ents es kvs → Ents (es ++ [⟨hs, .str x t, v⟩]) (kvs ++ [(x, v)])
  | _, _, .nil => .cons _ _ _ _ .nil
  | _, _, .cons a b c d r => .cons a b c d r.snoc
theorem isStr_str {x y : Str} {t : Tok} : (Value.str x t).isStr y = (x == y) := rfl
theorem Ents.no {y : Str} : ∀ {es : List DictEntry} {kvs : List (Str × Value)}, Ents es kvs → y ∉ kvs.map (·.1) → ∀ e ∈ es, e.key.isStr y = false
  | _, _, .nil, _, e, he => nomatch he
  | _, _, .cons x t hs v r, hn, e, he => by
    simp only [List.map_cons, List.mem_cons, not_or] at hn
    rcases List.mem_cons.mp he with rfl | he
    · show (x == y) = false
      exact beq_eq_false_iff_ne.mpr fun q => hn.1 q.symm
    · exact r.no hn.2 e he
theorem Ents.at {y : Str} {v : Value} : ∀ {es : List DictEntry} {kvs : List (Str × Value)}, Ents es kvs → kvs.lookup y = some v → ∃ i e, (es.findIdx? fun e => e.key.isStr y) = some i ∧ es[i]? = some e ∧ e.val = v
  | _, _, .nil, h => nomatch h
  | _, _, .cons x t hs u (es := es) (kvs := kvs) r, h => by
    by_cases hx : x = y
    · subst hx
      simp only [List.lookup, beq_self_eq_true] at h
      cases h
      exact ⟨0, _, by simp only [List.findIdx?_cons]; rw [isStr_str]; simp, rfl, rfl⟩
    · have hb : (y == x) = false := beq_eq_false_iff_ne.mpr fun q => hx q.symm
      simp only [List.lookup, hb] at h
      obtain ⟨i, e, h1, h2, h3⟩ := r.at h
      refine ⟨i + 1, e, ?_, by simpa using h2, h3⟩
      simp only [List.findIdx?_cons]
      rw [isStr_str, beq_eq_false_iff_ne.mpr hx, h1]
      simp

section
variable {prog : Program} {w : World} {A : Around} {E : Value → Shared → Prop} {s : Shared}
/-- a new key goes behind -/
theorem dset {d : Addr} {o : Obj} {es : Array DictEntry} {ep : Nat} {kvs : List (Str × Value)} {x : Str} {t : Tok} {v : Value} {Q : Unit → Shared → Prop} (ho : s.heap.get? d = some o) (hd : o.data = .dict es ep) (he : Ents es.toList kvs)
    (hx : x ∉ kvs.map (·.1)) (hsz : kvs.length ≤ 1000)
    (hQ : ∀ es' ep' h', h'.get? d = some { o with data := .dict es' ep' } → Heap.SameBut d s.heap h' → Ents es'.toList (kvs ++ [(x, v)]) → Q () { s with heap := h', toks := s.toks + 1 }) :
    wpAny (model prog w) A (dictSet d (.str x t) v) Q E s := by
  have hall : (es.all fun e => isExactStrKey e.key) = true := by rw [← Array.all_toList]; exact he.all
  have hes : es.size ≤ sizeLine := by
    have e1 := he.len
    have e2 := PySem.sizeLine_eq
    rw [Array.length_toList] at e1
    omega
  have hnone : (es.findIdx? fun e => e.key.isStr x) = none := by
    rw [Array.findIdx?_eq_none_iff]
    intro e hm
    simpa using he.no hx e (by simpa using hm)
  unfold dictSet
  refine wpAny_holding (wpAny_bind (wpAny_pyHash_str ?_))
  unfold dictSetHashed
  refine wpAny_holding (wpAny_bind (KTD.kt_dictFind_strs (s := { s with toks := s.toks + 1 }) ho hd hall ?_))
  rw [hnone]
  obtain ⟨oc, od, odt, osl⟩ := o
  dsimp only at hd
  subst hd
  refine wpAny_bind (wpAny_rule (wpAny_updateDictKeys (hz := hes) (s := { s with toks := s.toks + 1 }) ho rfl (hQ _ _ _ (Heap.get?_update_self _ ho rfl) (Heap.SameBut.update ..) ?_)))
  simpa using he.snoc
/-- a key that is there -/
theorem dget {d : Addr} {o : Obj} {es : Array DictEntry} {ep : Nat} {kvs : List (Str × Value)} {x : Str} {t : Tok} {v : Value} {Q : Option Value → Shared → Prop} (ho : s.heap.get? d = some o) (hd : o.data = .dict es ep) (he : Ents es.toList kvs)
    (hx : kvs.lookup x = some v) (hQ : Q (some v) { s with toks := s.toks + 1 }) :
    wpAny (model prog w) A (dictGet d (.str x t)) Q E s := by
  have hall : (es.all fun e => isExactStrKey e.key) = true := by rw [← Array.all_toList]; exact he.all
  obtain ⟨i, e, h1, h2, h3⟩ := he.at hx
  have h1' : (es.findIdx? fun e => e.key.isStr x) = some i := by rw [← h1]; obtain ⟨l⟩ := es; simp
  unfold dictGet
  refine wpAny_holding (wpAny_bind (wpAny_pyHash_str ?_))
  refine wpAny_bind (KTD.kt_dictFind_strs (s := { s with toks := s.toks + 1 }) ho hd hall ?_)
  rw [h1']
  refine wpAny_bind (wpAny_dictEntries (s := { s with toks := s.toks + 1 }) ho hd ?_)
  have h2' : es[i]? = some e := by rw [← h2]; obtain ⟨l⟩ := es; simp
  rw [h2']
  refine wpAny_pure ?_
  rw [Option.map_some, h3]
  exact hQ
end
end Mine
end
/-! part Dsup -/
section
theorem Mine.startDsup : True := by
  w_top off
  exact trivial
open PySem PySem.W PyProof.Rows PySem.Calls PySem.Spec
set_option Elab.async false
set_option maxRecDepth 100000
namespace Mine
namespace DS
theorem slot_wd : Slot "wrapper_descriptor" "__get__" "wrapper_descriptor.__get__" := .of (owner := "wrapper_descriptor") (n := "__get__") (by rw [typeLookup_type, builtinLookup_eq_fast]; kernel_rfl) (by decide +kernel) (by decide +kernel) (by decide +kernel)
  (by first | exact .inl (by decide +kernel) | exact .inr (by decide +kernel)) (by rw [isSubtype_type]; kernel_rfl)
theorem slot_md : Slot "method_descriptor" "__get__" "method_descriptor.__get__" := .of (owner := "method_descriptor") (n := "__get__") (by rw [typeLookup_type, builtinLookup_eq_fast]; kernel_rfl) (by decide +kernel) (by decide +kernel) (by decide +kernel)
  (by first | exact .inl (by decide +kernel) | exact .inr (by decide +kernel)) (by rw [isSubtype_type]; kernel_rfl)
theorem entry_wd : entryFor table "wrapper_descriptor.__get__" = some Builtin.«wrapper_descriptor.__get__» := entryFor_of_tree (by kernel_rfl)
theorem entry_md : entryFor table "method_descriptor.__get__" = some Builtin.«method_descriptor.__get__» := entryFor_of_tree (by kernel_rfl)
theorem args_wd (a b c : Value) : argsOk "wrapper_descriptor.__get__" ⟨[a, b, c], []⟩ := by unfold argsOk; kernel_rfl
theorem args_md (a b c : Value) : argsOk "method_descriptor.__get__" ⟨[a, b, c], []⟩ := by unfold argsOk; kernel_rfl
theorem ty_set : typeOf (.builtin "dict.__setitem__") = pure (.type "wrapper_descriptor") := by show builtinType _ = _; rw [builtinType_eq_fast]; kernel_rfl
theorem ty_init : typeOf (.builtin "dict.__init__") = pure (.type "wrapper_descriptor") := by show builtinType _ = _; rw [builtinType_eq_fast]; kernel_rfl
theorem ty_get : typeOf (.builtin "dict.__getitem__") = pure (.type "method_descriptor") := by show builtinType _ = _; rw [builtinType_eq_fast]; kernel_rfl
theorem told_get : Manifest.toldItsClass.contains "dict.__getitem__" = false := by decide +kernel
/-- the bound method of the dict within -/
abbrev bnd (T : String) (id : String) (x : Addr) : Obj := { cls := .type T, dict := none, data := .fields #[.builtin id, .ref x], slots := #[] }
section
variable {prog : Program} {w : World} {A : Around} {s : Shared} {K : Frag} {x C : Addr} {ox : Obj}
theorem isInst {E : Value → Shared → Prop} {t : Value} {b : Bool} {Q : Bool → Shared → Prop} (X : K.In s.heap) (hx : s.heap.get? x = some ox) (hc : ox.cls = .ref C) (hsub : mroIn K C t = some b) (hq : Q b s) : wpAny (model prog w) A (isInstance (.ref x) t) Q E s := by
  unfold isInstance
  refine wpAny_bind ?_
  simp only [typeOf]
  refine wpAny_bind (wpAny_loadPart hx (wpAny_pure ?_))
  rw [hc]
  exact (looks_mroIn X hsub).here hq
theorem wd_set {E : Value → Shared → Prop} {P : Fin → Shared → Prop} (X : K.In s.heap) (hx : s.heap.get? x = some ox) (hc : ox.cls = .ref C) (hsub : mroIn K C (.type "dict") = some true)
    (h : P (.done (.ret (.ref s.heap.objs.size))) { s with heap := s.heap.push (bnd "method-wrapper" "dict.__setitem__" x) }) :
    wpAny (model prog w) A (Builtin.«wrapper_descriptor.__get__» ⟨[.builtin "dict.__setitem__", .ref x, .ref C], []⟩) P E s := by
  unfold Builtin.«wrapper_descriptor.__get__»
  refine wpAny_bind (wpAny_of_eq (a := (Value.builtin "dict.__setitem__", some (Value.ref x), some (Value.ref C))) (by first | rfl | kernel_rfl) ?_)
  refine wpAny_bind (wpAny_bind (wpAny_of_eq (a := (Str.ofString "__setitem__", Value.type "dict")) (by first | rfl | kernel_rfl) (wpAny_bind (isInst X hx hc hsub ?_))))
  refine KFB.if_not rfl ?_
  refine wpAny_pure ?_
  exact wpAny_bind (wpAny_newObj_type (wpAny_pure h))
theorem wd_init {E : Value → Shared → Prop} {P : Fin → Shared → Prop} (X : K.In s.heap) (hx : s.heap.get? x = some ox) (hc : ox.cls = .ref C) (hsub : mroIn K C (.type "dict") = some true)
    (h : P (.done (.ret (.ref s.heap.objs.size))) { s with heap := s.heap.push (bnd "method-wrapper" "dict.__init__" x) }) :
    wpAny (model prog w) A (Builtin.«wrapper_descriptor.__get__» ⟨[.builtin "dict.__init__", .ref x, .ref C], []⟩) P E s := by
  unfold Builtin.«wrapper_descriptor.__get__»
  refine wpAny_bind (wpAny_of_eq (a := (Value.builtin "dict.__init__", some (Value.ref x), some (Value.ref C))) (by first | rfl | kernel_rfl) ?_)
  refine wpAny_bind (wpAny_bind (wpAny_of_eq (a := (Str.ofString "__init__", Value.type "dict")) (by first | rfl | kernel_rfl) (wpAny_bind (isInst X hx hc hsub ?_))))
  refine KFB.if_not rfl ?_
  refine wpAny_pure ?_
  exact wpAny_bind (wpAny_newObj_type (wpAny_pure h))
theorem md_get {E : Value → Shared → Prop} {P : Fin → Shared → Prop} (X : K.In s.heap) (hx : s.heap.get? x = some ox) (hc : ox.cls = .ref C) (hsub : mroIn K C (.type "dict") = some true)
    (h : P (.done (.ret (.ref s.heap.objs.size))) { s with heap := s.heap.push (bnd "builtin_function_or_method" "dict.__getitem__" x) }) :
    wpAny (model prog w) A (Builtin.«method_descriptor.__get__» ⟨[.builtin "dict.__getitem__", .ref x, .ref C], []⟩) P E s := by
  unfold Builtin.«method_descriptor.__get__»
  refine wpAny_bind (wpAny_of_eq (a := (Value.builtin "dict.__getitem__", some (Value.ref x), some (Value.ref C))) (by first | rfl | kernel_rfl) ?_)
  simp only [told_get]
  refine KFB.if_not rfl ?_
  refine wpAny_bind (wpAny_bind (wpAny_of_eq (a := (Str.ofString "__getitem__", Value.type "dict")) (by first | rfl | kernel_rfl) (wpAny_bind (isInst X hx hc hsub ?_))))
  refine KFB.if_not rfl ?_
  refine wpAny_pure ?_
  exact wpAny_bind (wpAny_newObj_type (wpAny_pure h))
/-- super().name: the dict's own method, bound -/
theorem super_ga {E : Value → Shared → Prop} {h : Heap} {g : Array GenState} {d : Drawn} {t : Nat} {os : OsState} {so D : Addr} {id did T bT : String} {B : Builtin} {l₀ l : List Value} {name : Str} {tk : Tok} {Q : Fin → Shared → Prop}
    (hso : h.get? so = some { cls := .type "super", dict := none, data := .fields #[.ref D, .ref x, .ref C], slots := #[] }) (hno : Looks (model prog w) h (opaqueClassAbove (.ref C)) none)
    (hC : Looks (model prog w) h (mroOf (.ref C)) l₀) (hl : (l₀.dropWhile (· != .ref D)).drop 1 = l) (X : K.In h)
    (hf : alongIn K name l = some (some (.builtin id))) (hxC : x ≠ C) (hn : (name == ("__class__" : Str)) = false)
    (hty : typeOf (.builtin id) = pure (.type T)) (hsl : Slot T "__get__" did) (hen : entryFor table did = some B) (harg : argsOk did ⟨[.builtin id, .ref x, .ref C], []⟩)
    (hB : ∀ {A' : Around} {P : Fin → Shared → Prop}, P (.done (.ret (.ref h.objs.size))) ⟨h.push (bnd bT id x), g, d, t, os⟩ → wpAny (model prog w) A' (B ⟨[.builtin id, .ref x, .ref C], []⟩) P E ⟨h, g, d, t, os⟩)
    (hq : Q (.done (.ret (.ref h.objs.size))) ⟨h.push (bnd bT id x), g, d, t, os⟩) :
    wpAny (model prog w) A (Builtin.«super.__getattribute__» ⟨[.ref so, .str name tk], []⟩) Q E ⟨h, g, d, t, os⟩ := by
  have hlk := hsl.lookup
  have hne : (Value.ref x == Value.ref C) = false := by simp [hxC]
  have hTf : (⟨h, g, d, t, os⟩ : Shared).TypeIs (.builtin id) T := hty
  have hdt : ({ cls := .type "super", dict := none, data := .fields #[.ref D, .ref x, .ref C], slots := #[] } : Obj).data = .fields #[.ref D, .ref x, .ref C] := rfl
  have f0 : (#[.ref D, .ref x, .ref C] : Array Value)[0]? = some (.ref D) := rfl
  have f1 : (#[.ref D, .ref x, .ref C] : Array Value)[1]? = some (.ref x) := rfl
  have f2 : (#[.ref D, .ref x, .ref C] : Array Value)[2]? = some (.ref C) := rfl
  unfold Builtin.«super.__getattribute__»
  repeat (first
    | (with_reducible refine wpAny_field hso hdt f0 ?_) | (with_reducible refine wpAny_field hso hdt f1 ?_) | (with_reducible refine wpAny_field hso hdt f2 ?_)
    | (with_reducible refine ks_wpAny_notOpaque hno ?_)
    | (with_reducible refine Looks.at hC ?_; rw [hl])
    | (refine ks_forIn_along X (fun _ _ => rfl) rfl ?_ hf)
    | (with_reducible refine wpAny_typeOf hTf ?_)
    | (with_reducible refine wpAny_call_entry hsl hTf hen ?_ harg)
    | (with_reducible refine hB ?_)
    | (with_reducible refine ⟨_, rfl, ?_⟩)
    | (simp only [hn, hne, Bool.or_false, Bool.false_eq_true, if_false])
    | wp_step
    | dsimp only)
  all_goals exact hq
theorem super_getm {E : Value → Shared → Prop} {h : Heap} {g : Array GenState} {d : Drawn} {t : Nat} {os : OsState} {so D : Addr} {id did T bT : String} {B : Builtin} {l₀ l : List Value} {name : Str} {pl : Sem Bool} {Q : Value × List Value → Shared → Prop}
    (hso : h.get? so = some { cls := .type "super", dict := none, data := .fields #[.ref D, .ref x, .ref C], slots := #[] }) (hno : Looks (model prog w) h (opaqueClassAbove (.ref C)) none)
    (hC : Looks (model prog w) h (mroOf (.ref C)) l₀) (hl : (l₀.dropWhile (· != .ref D)).drop 1 = l) (X : K.In h)
    (hf : alongIn K name l = some (some (.builtin id))) (hxC : x ≠ C) (hn : (name == ("__class__" : Str)) = false)
    (hty : typeOf (.builtin id) = pure (.type T)) (hsl : Slot T "__get__" did) (hen : entryFor table did = some B) (harg : argsOk did ⟨[.builtin id, .ref x, .ref C], []⟩)
    (hB : ∀ {A' : Around} {E' : Value → Shared → Prop} {P : Fin → Shared → Prop}, P (.done (.ret (.ref h.objs.size))) ⟨h.push (bnd bT id x), g, d, t + 1, os⟩ → wpAny (model prog w) A' (B ⟨[.builtin id, .ref x, .ref C], []⟩) P E' ⟨h, g, d, t + 1, os⟩)
    (hq : Q (.ref h.objs.size, []) ⟨h.push (bnd bT id x), g, d, t + 1, os⟩) :
    wpAny (model prog w) A (getMethod (.ref so) name pl) Q E ⟨h, g, d, t, os⟩ := by
  have hlk := F.ks_slot_super_ga.lookup
  have hcan := F.ks_canon_super_ga
  have hT : ∀ t', (⟨h, g, d, t', os⟩ : Shared).TypeIs (.ref so) "super" := fun _ => ⟨_, hso, rfl⟩
  unfold getMethod
  refine wpAny_bind (wpAny_specialOf (hT _) hlk ?_)
  show wpAny _ _ (if (Manifest.canonical "super.__getattribute__" != "object.__getattribute__") = true then _ else _) _ _ _
  rw [if_pos hcan]
  unfold getAttr getAttrBy
  refine wpAny_bind (wpAny_bind (wpAny_mkText (wpAny_holding (wpAny_bind (wpAny_typeOf (hT _) (wpAny_bind (wpAny_of_eq hlk ?_)))))))
  show wpAny _ _ (getAttrByItsOwn (.ref so) (.str name t) (.type "super") (.builtin "super.__getattribute__") true false) _ _ _
  unfold getAttrByItsOwn hookBefore callGetattribute boundAndCalled
  refine wpAny_bind (wpAny_of_eq (show (if onTheHeap (.type "super") then typeLookup (.type "super") "__getattr__" else pure none) = pure none from rfl) ?_)
  refine wpAny_bind (wpAny_attempt (wpAny_holding ?_))
  show wpAny _ _ (bindSpecial (.builtin "super.__getattribute__") (.ref so) >>= _) _ _ _
  refine wpAny_bind (wpAny_of_eq (F.ks_slot_super_ga.bind _) ?_)
  refine wpAny_mono (Q := fun v s' => v = .ref h.objs.size ∧ s' = ⟨h.push (bnd bT id x), g, d, t + 1, os⟩) (E := fun _ _ => False)
    (wpAny_call_entry F.ks_slot_super_ga (hT _) F.ks_entry_super_ga (super_ga hso hno hC hl X hf hxC hn hty hsl hen harg (bT := bT) (fun hP => hB hP) ⟨_, rfl, rfl, rfl⟩) (F.ks_gaArgs_super _ _)) (fun v s' hv => ?_) fun _ _ z => z.elim
  obtain ⟨rfl, rfl⟩ := hv
  exact wpAny_pure (wpAny_pure hq)
end
end DS
end Mine
end
/-! part Dcall -/
section
theorem Mine.startDcall : True := by
  w_top off
  exact trivial
open PySem PySem.W PyProof.Rows PySem.Calls PySem.Spec
set_option Elab.async false
set_option maxRecDepth 100000
namespace Mine
namespace DS
section
variable {prog : Program} {w : World} {A : Around} {s : Shared} {K : Frag} {x C D so q : Addr} {ox : Obj} {odx : Option Obj} {h₀ : Heap} {L : Addr} {m : Str → Option Value} {news : List (Addr × Obj)}
theorem supK {E : Value → Shared → Prop} {id did T bT : String} {B : Builtin} {name : Str} {pl : Sem Bool} {Q : Value × List Value → Shared → Prop} (F : Fr h₀ L s.heap m) (X₀ : K.In h₀) (N : News h₀ L s.heap news) (hso : (so, ks_superObj D x C) ∈ news) (I : InstAt s.heap x ox C odx)
    (ho : nsIn K cStatics "thirdparty.any" = some none) (hm : ks_superIn K C D name = some (some (.builtin id))) (hn : (name == ("__class__" : Str)) = false)
    (hty : typeOf (.builtin id) = pure (.type T)) (hsl : Slot T "__get__" did) (hen : entryFor table did = some B) (harg : argsOk did ⟨[.builtin id, .ref x, .ref C], []⟩)
    (hB : ∀ {A' : Around} {E' : Value → Shared → Prop} {P : Fin → Shared → Prop} {s' : Shared}, K.In s'.heap → s'.heap.get? x = some ox → P (.done (.ret (.ref s'.heap.objs.size))) { s' with heap := s'.heap.push (bnd bT id x) } → wpAny (model prog w) A' (B ⟨[.builtin id, .ref x, .ref C], []⟩) P E' s')
    (h : ∀ q h', Fr h₀ L h' m → News h₀ L h' ((q, bnd bT id x) :: news) → (∀ p ∈ news, p.1 < q) → Q (.ref q, []) { s with heap := h', toks := s.toks + 1 }) : wpAny (model prog w) A (getMethod (.ref so) name pl) Q E s := by
  have X : K.In s.heap := X₀.keeps F.keep
  obtain ⟨hh, g, d, t, os⟩ := s
  cases hc : clsIn K C with
  | none => unfold ks_superIn at hm; rw [hc] at hm; cases hm
  | some cd =>
    unfold ks_superIn at hm
    rw [hc] at hm
    refine super_getm (N _ hso).1 (looks_opaque X ho) (l₀ := cd.mro) ?_ rfl X hm (ks_ne X I hc) hn hty hsl hen harg (bT := bT) ?_ ?_
    · exact fun A Q E s k q => wpAny_bind ((looks_clsIn X hc) A _ E s k (wpAny_pure q))
    · intro A' E' P hP
      exact hB (s' := ⟨hh, g, d, t + 1, os⟩) X I.at_ hP
    · obtain ⟨F', N', l'⟩ := ks_newsPush (s := ⟨hh, g, d, t, os⟩) (o := bnd bT id x) F N rfl (Heap.get?_push_at rfl rfl) (fun b o e => Heap.get?_push_of_some _ e)
      exact h _ _ F' N' l'
/-- super().__setitem__ of a dict's subclass -/
theorem supK_set {E : Value → Shared → Prop} {pl : Sem Bool} {Q : Value × List Value → Shared → Prop} (F : Fr h₀ L s.heap m) (X₀ : K.In h₀) (N : News h₀ L s.heap news) (hso : (so, ks_superObj D x C) ∈ news) (I : InstAt s.heap x ox C odx)
    (ho : nsIn K cStatics "thirdparty.any" = some none) (hm : ks_superIn K C D "__setitem__" = some (some (.builtin "dict.__setitem__"))) (hsub : mroIn K C (.type "dict") = some true)
    (h : ∀ q h', Fr h₀ L h' m → News h₀ L h' ((q, bnd "method-wrapper" "dict.__setitem__" x) :: news) → (∀ p ∈ news, p.1 < q) → Q (.ref q, []) { s with heap := h', toks := s.toks + 1 }) : wpAny (model prog w) A (getMethod (.ref so) "__setitem__" pl) Q E s :=
  supK F X₀ N hso I ho hm (by decide) ty_set slot_wd entry_wd (args_wd _ _ _) (fun X hx hP => wd_set X hx I.cls hsub hP) h
theorem supK_init {E : Value → Shared → Prop} {pl : Sem Bool} {Q : Value × List Value → Shared → Prop} (F : Fr h₀ L s.heap m) (X₀ : K.In h₀) (N : News h₀ L s.heap news) (hso : (so, ks_superObj D x C) ∈ news) (I : InstAt s.heap x ox C odx)
    (ho : nsIn K cStatics "thirdparty.any" = some none) (hm : ks_superIn K C D "__init__" = some (some (.builtin "dict.__init__"))) (hsub : mroIn K C (.type "dict") = some true)
    (h : ∀ q h', Fr h₀ L h' m → News h₀ L h' ((q, bnd "method-wrapper" "dict.__init__" x) :: news) → (∀ p ∈ news, p.1 < q) → Q (.ref q, []) { s with heap := h', toks := s.toks + 1 }) : wpAny (model prog w) A (getMethod (.ref so) "__init__" pl) Q E s :=
  supK F X₀ N hso I ho hm (by decide) ty_init slot_wd entry_wd (args_wd _ _ _) (fun X hx hP => wd_init X hx I.cls hsub hP) h
theorem supK_get {E : Value → Shared → Prop} {pl : Sem Bool} {Q : Value × List Value → Shared → Prop} (F : Fr h₀ L s.heap m) (X₀ : K.In h₀) (N : News h₀ L s.heap news) (hso : (so, ks_superObj D x C) ∈ news) (I : InstAt s.heap x ox C odx)
    (ho : nsIn K cStatics "thirdparty.any" = some none) (hm : ks_superIn K C D "__getitem__" = some (some (.builtin "dict.__getitem__"))) (hsub : mroIn K C (.type "dict") = some true)
    (h : ∀ q h', Fr h₀ L h' m → News h₀ L h' ((q, bnd "builtin_function_or_method" "dict.__getitem__" x) :: news) → (∀ p ∈ news, p.1 < q) → Q (.ref q, []) { s with heap := h', toks := s.toks + 1 }) : wpAny (model prog w) A (getMethod (.ref so) "__getitem__" pl) Q E s :=
  supK F X₀ N hso I ho hm (by decide) ty_get slot_md entry_md (args_md _ _ _) (fun X hx hP => md_get X hx I.cls hsub hP) h

/-- the call of such a bound method -/
theorem keep_bnd {M : Model} {h : Heap} {bT id : String} (hT : (bT == "method-wrapper" || bT == "builtin_function_or_method") = true) (hq : h.get? q = some (bnd bT id x)) : ∃ k, (k = Keeper.frame ∨ k = Keeper.machine ∨ k = Keeper.boundFrame) ∧ Looks M h (keeperOf (.ref q)) k := by
  refine ⟨.machine, .inr (.inl rfl), fun A Q E s k hQ => ?_⟩
  unfold keeperOf
  refine wpAny_bind (wpAny_load (k _ _ hq) ?_)
  have h1 : (Value.type bT != Value.type "method") = true := by
    rcases Bool.or_eq_true _ _ |>.mp hT with e | e <;> (rw [beq_iff_eq.mp e]; decide)
  have h2 : (Value.type bT == Value.type "builtin_function_or_method" || Value.type bT == Value.type "method-wrapper") = true := by
    rcases Bool.or_eq_true _ _ |>.mp hT with e | e <;> (rw [beq_iff_eq.mp e]; decide)
  simp only [h1, h2, if_true]
  exact wpAny_pure hQ
theorem callWith_bnd {M : Model} {E : Value → Shared → Prop} {bT id : String} {Q : Value → Shared → Prop} {env : Env} {pos : Pos} {e : Expr} {rest : List Expr} (hT : (bT == "method-wrapper" || bT == "builtin_function_or_method") = true) (_N : News h₀ L s.heap news) (_hm : (q, bnd bT id x) ∈ news)
    (h : wpAny M A (spliced (backTo pos (starEach (e :: rest) env))) (fun vs s₁ => s₁.heap.get? q = some (bnd bT id x) ∧ wpAny M A (call (.ref q) ([] ++ vs)) Q E s₁) E s)
    (he : starEach (e :: rest) env = (false, eval e env) :: starEach rest env := by rfl) (hplain : (backTo pos (starEach rest env)).any (·.1) = false := by rfl) :
    wpAny M A (callWith pos (.ref q) [] (backTo pos (starEach (e :: rest) env)) []) Q E s := by
  rw [he] at h ⊢
  exact callWith_of (P := fun h => h.get? q = some (bnd bT id x)) (by show ((false || (backTo pos (starEach rest env)).any (·.1)) || false) = false; rw [hplain]; rfl) (fun _ hp => keep_bnd hT hp) (evalArgs_plain h)
theorem callWith_bnd0 {M : Model} {E : Value → Shared → Prop} {bT id : String} {Q : Value → Shared → Prop} {env : Env} {pos : Pos} (hT : (bT == "method-wrapper" || bT == "builtin_function_or_method") = true) (N : News h₀ L s.heap news) (hm : (q, bnd bT id x) ∈ news)
    (h : wpAny M A (call (.ref q) ([] ++ [])) Q E s) : wpAny M A (callWith pos (.ref q) [] (backTo pos (starEach [] env)) []) Q E s :=
  callWith_of (P := fun h => h.get? q = some (bnd bT id x)) rfl (fun _ hp => keep_bnd hT hp) (evalArgs_nil3 ⟨(N _ hm).1, h⟩)
theorem code_bnd {R : Result → Shared → Prop} {bT id : String} {a : Args} (hT : (bT == "method-wrapper" || bT == "builtin_function_or_method") = true) (hq : s.heap.get? q = some (bnd bT id x)) (hqt : (Code.builtin id { a with pos := .ref x :: a.pos }).quiet = true)
    (hck : wpAny (model prog w) A.in1 (checkBoundCall id { a with pos := .ref x :: a.pos }) (fun _ s₁ => codeAny (model prog w) A (.builtin id { a with pos := .ref x :: a.pos }) R s₁) (fun e s' => R (.error e) s') s) :
    codeAny (model prog w) A (.call (.ref q) a) R s := by
  refine codeAny_of_tree ?_
  show wpAny _ A.in1 (callAny (.ref q) a) _ _ _
  unfold callAny
  refine wpAny_bind (wpAny_load hq ?_)
  have h1 : (Value.type bT == Value.type "method" || Value.type bT == Value.type "builtin_function_or_method" || Value.type bT == Value.type "method-wrapper") = true := by
    rcases Bool.or_eq_true _ _ |>.mp hT with e | e <;> (rw [beq_iff_eq.mp e]; decide)
  have h2 : (Value.type bT != Value.type "method") = true := by
    rcases Bool.or_eq_true _ _ |>.mp hT with e | e <;> (rw [beq_iff_eq.mp e]; decide)
  simp only [h1, h2, if_true]
  refine wpAny_bind (wpAny_mono hck (fun _ s₁ h₁ => wpAny_pure ⟨hqt, h₁⟩) fun _ _ z => z)
end
end DS
end Mine
end
/-! part Dmeth -/
section
theorem Mine.startDmeth : True := by
  w_top off
  exact trivial
open PySem PySem.W PyProof.Rows PySem.Calls PySem.Spec
set_option Elab.async false
set_option maxRecDepth 100000
namespace Mine
namespace DS
theorem plain_set : plainId "dict.__setitem__" = true := by decide +kernel
theorem plain_get : plainId "dict.__getitem__" = true := by decide +kernel
theorem plain_init : plainId "dict.__init__" = true := by decide +kernel
theorem entry_set : entryFor table "dict.__setitem__" = some Builtin.«dict.__setitem__» := entryFor_of_tree (by kernel_rfl)
theorem entry_get : entryFor table "dict.__getitem__" = some Builtin.«dict.__getitem__» := entryFor_of_tree (by kernel_rfl)
theorem entry_init : entryFor table "dict.__init__" = some Builtin.«dict.__init__» := entryFor_of_tree (by kernel_rfl)
theorem check_set (a b c : Value) : checkBoundCall "dict.__setitem__" ⟨[a, b, c], []⟩ = pure () := by first | rfl | kernel_rfl
theorem check_init (a : Value) : checkBoundCall "dict.__init__" ⟨[a], []⟩ = pure () := by first | rfl | kernel_rfl
theorem sig_get : Manifest.signature? "dict.__getitem__" = some ⟨.oneArg, "dict.__getitem__", "__getitem__", .self, [⟨"key", .posOnly, true⟩]⟩ := by kernel_rfl
theorem kind_get : builtinKind "dict.__getitem__" = some .method := by kernel_rfl
theorem args_get1 (a b : Value) : Bind.checkArgs "dict.__getitem__" ⟨.oneArg, toString (Str.ofString "Parameters").toString ++ toString "." ++ toString (Bind.lastOf "dict.__getitem__"), "__getitem__", .self, [⟨"key", .posOnly, true⟩]⟩ ⟨[a, b], []⟩ = pure () := by first | rfl | kernel_rfl
section
variable {prog : Program} {w : World} {A : Around} {s : Shared} {K : Frag} {x C q : Addr} {ox : Obj}
theorem notOrd {E : Value → Shared → Prop} {name : String} {rest : List Value} {Q : Unit → Shared → Prop} (X : K.In s.heap) (hx : s.heap.get? x = some ox) (hc : ox.cls = .ref C) (hod : mroIn K C (.type "collections.OrderedDict") = some false)
    (hn : ["clear", "keys", "values", "items", "popitem", "__reversed__", "__iter__", "__repr__", "pop", "setdefault", "update", "__init__", "__setitem__", "__delitem__", "__ior__"].contains name = true) (hq : Q () s) :
    wpAny (model prog w) A (Builtin.Dict.notOrdered name ⟨.ref x :: rest, []⟩) Q E s := by
  unfold Builtin.Dict.notOrdered
  rw [if_pos hn]
  simp only [typeOf]
  refine wpAny_bind (wpAny_bind (wpAny_loadPart hx (wpAny_pure ?_)))
  rw [hc]
  refine KFB.if_so (by rfl) ?_
  refine wpAny_bind (isInst X hx hc hod ?_)
  exact KFB.if_not rfl (wpAny_pure hq)
theorem body_set {E : Value → Shared → Prop} {es : Array DictEntry} {ep : Nat} {kvs : List (Str × Value)} {k : Str} {t : Tok} {v : Value} {P : Fin → Shared → Prop} (X : K.In s.heap) (hx : s.heap.get? x = some ox) (hc : ox.cls = .ref C) (hd : ox.data = .dict es ep) (he : Ents es.toList kvs)
    (hod : mroIn K C (.type "collections.OrderedDict") = some false) (hk : k ∉ kvs.map (·.1)) (hsz : kvs.length ≤ 1000)
    (h : ∀ es' ep' h', h'.get? x = some { ox with data := .dict es' ep' } → Heap.SameBut x s.heap h' → Ents es'.toList (kvs ++ [(k, v)]) → P (.done (.ret .none)) { s with heap := h', toks := s.toks + 1 }) :
    wpAny (model prog w) A (Builtin.«dict.__setitem__» ⟨[.ref x, .str k t, v], []⟩) P E s := by
  unfold Builtin.«dict.__setitem__»
  refine wpAny_bind (notOrd X hx hc hod (by decide) ?_)
  refine KFB.if_not (by rfl) ?_
  refine wpAny_bind (wpAny_of_eq (a := (Value.ref x, [Value.str k t, v])) (by first | rfl | kernel_rfl) ?_)
  dsimp only
  refine wpAny_bind (wpAny_pure (wpAny_bind (dset hx hd he hk hsz fun es' ep' h' e1 e2 e3 => wpAny_pure (h es' ep' h' e1 e2 e3))))
theorem body_get {E : Value → Shared → Prop} {es : Array DictEntry} {ep : Nat} {kvs : List (Str × Value)} {k : Str} {t : Tok} {v : Value} {P : Fin → Shared → Prop} (hx : s.heap.get? x = some ox) (hd : ox.data = .dict es ep) (he : Ents es.toList kvs)
    (hk : kvs.lookup k = some v) (h : P (.done (.ret v)) { s with toks := s.toks + 1 }) :
    wpAny (model prog w) A (Builtin.«dict.__getitem__» ⟨[.ref x, .str k t], []⟩) P E s := by
  unfold Builtin.«dict.__getitem__»
  refine wpAny_bind (wpAny_of_eq (a := (x, Value.str k t)) (by first | rfl | kernel_rfl) ?_)
  dsimp only
  refine wpAny_bind (dget hx hd he hk ?_)
  exact wpAny_pure h
theorem body_init {E : Value → Shared → Prop} {P : Fin → Shared → Prop} (X : K.In s.heap) (hx : s.heap.get? x = some ox) (hc : ox.cls = .ref C)
    (hod : mroIn K C (.type "collections.OrderedDict") = some false) (h : P (.done (.ret .none)) s) :
    wpAny (model prog w) A (Builtin.«dict.__init__» ⟨[.ref x], []⟩) P E s := by
  unfold Builtin.«dict.__init__» Builtin.Dict.selfAndRest
  refine wpAny_bind (wpAny_bind (notOrd X hx hc hod (by decide) ?_))
  refine wpAny_bind (wpAny_pure (wpAny_pure ?_))
  refine wpAny_of_eq (a := .done (.ret .none)) (by first | rfl | kernel_rfl) h
end
/-- an object of a dict's subclass -/
abbrev pob (C Dd : Addr) (es : Array DictEntry) (ep : Nat) : Obj := { cls := .ref C, dict := some Dd, data := .dict es ep, slots := #[] }
section
variable {prog : Program} {w : World} {A : Around} {E : Value → Shared → Prop} {s : Shared} {K : Frag} {x C Dd q : Addr} {h₀ : Heap} {L : Addr} {m : Str → Option Value} {news : List (Addr × Obj)} {g : Obj → List (Addr × Obj)} {es : Array DictEntry} {ep : Nat} {kvs : List (Str × Value)} {k : Str} {t : Tok} {v : Value} {Q : Value → Shared → Prop}
theorem turn_o {o o' : Obj} {D : Addr} {h h' : Heap} (F : Fr h₀ L h m) (N : News h₀ L h news) (U : UpdF D o news g) (hs : Heap.SameBut D h h') (ho : h'.get? D = some o') : Fr h₀ L h' m ∧ News h₀ L h' (g o') := by
  obtain ⟨pre, post, rfl, hg, h1, h2⟩ := U.split
  have z := N (D, o) (List.mem_append.mpr (.inr (.head _)))
  refine ⟨F.change hs z.2.1 z.2.2, ?_⟩
  rw [hg]
  exact News.setAt N h1 h2 hs ho
theorem call_set (F : Fr h₀ L s.heap m) (X₀ : K.In h₀) (N : News h₀ L s.heap news) (hq : (q, bnd "method-wrapper" "dict.__setitem__" x) ∈ news) (U : UpdF x (pob C Dd es ep) news g) (he : Ents es.toList kvs)
    (hod : mroIn K C (.type "collections.OrderedDict") = some false) (hk : k ∉ kvs.map (·.1)) (hsz : kvs.length ≤ 1000)
    (h : ∀ h' es' ep', Fr h₀ L h' m → News h₀ L h' (g (pob C Dd es' ep')) → Ents es'.toList (kvs ++ [(k, v)]) → Q .none { s with heap := h', toks := s.toks + 1 }) :
    wpAny (model prog w) A (call (.ref q) [.str k t, v]) Q E s := by
  have X : K.In s.heap := X₀.keeps F.keep
  have hx := (N _ (updF_mem U)).1
  refine wpAny_call (code_bnd (by decide) (N _ hq).1 (plainId_quiet plain_set _) (wpAny_of_eq (check_set _ _ _) (codeAny_builtin entry_set ?_)))
  rw [Around.under_plainId plain_set _]
  refine body_set X hx rfl rfl he hod hk hsz fun es' ep' h' e1 e2 e3 => ?_
  obtain ⟨F', N'⟩ := turn_o F N U e2 e1
  exact h h' es' ep' F' N' e3
theorem notTy {M : Model} {ox : Obj} {Q : Bool → Shared → Prop} (hx : s.heap.get? x = some ox) (hn : notCls ox = true) (hq : Q false s) : wpAny M A (isType (.ref x)) Q E s := by
  obtain ⟨h, g, d, t, os⟩ := s
  exact ks_wpAny_isType_inst hx (fun c e => by unfold notCls at hn; rw [e] at hn; cases hn) hq
theorem call_get {Q : Value → Shared → Prop} {cd : ClassData} (F : Fr h₀ L s.heap m) (X₀ : K.In h₀) (N : News h₀ L s.heap news) (hq : (q, bnd "builtin_function_or_method" "dict.__getitem__" x) ∈ news) (hx : s.heap.get? x = some (pob C Dd es ep)) (he : Ents es.toList kvs)
    (hmo : mroIn K C (.type "module") = some false) (hcd : clsIn K C = some cd) (hty : (K.lookup C).map (·.cls) = some (.type "type"))
    (hqn : cd.qualname = Str.ofString "Parameters") (hk : kvs.lookup k = some v) (h : Q v { s with toks := s.toks + 1 }) :
    wpAny (model prog w) A (call (.ref q) [.str k t]) Q E s := by
  have X : K.In s.heap := X₀.keeps F.keep
  refine wpAny_call (code_bnd (by decide) (N _ hq).1 (plainId_quiet plain_get _) ?_)
  unfold checkBoundCall
  rw [sig_get]
  dsimp only
  rw [kind_get]
  dsimp only
  refine KFB.if_not (by decide) ?_
  refine wpAny_bind (isInst X hx rfl hmo ?_)
  refine KFB.if_not (by decide +kernel) ?_
  refine wpAny_bind (notTy hx rfl ?_)
  refine KFB.if_not rfl ?_
  simp only [typeOf]
  refine wpAny_bind (wpAny_bind (wpAny_loadPart hx (wpAny_pure ?_)))
  dsimp only
  refine wpAny_bind ((looks_clsIn X hcd).here ?_)
  obtain ⟨oC, hC, hCc⟩ : ∃ oC, s.heap.get? C = some oC ∧ oC.cls = .type "type" := by
    cases z : K.lookup C with
    | none => rw [z] at hty; cases hty
    | some of => rw [z] at hty; exact ⟨of, X _ _ z, Option.some.inj hty⟩
  refine wpAny_bind (wpAny_bind (wpAny_loadPart hC (wpAny_pure ?_)))
  rw [hCc]
  refine KFB.if_so (by decide) ?_
  rw [hqn]
  refine wpAny_of_eq (args_get1 _ _) ?_
  refine codeAny_builtin entry_get ?_
  rw [Around.under_plainId plain_get _]
  exact body_get hx rfl he hk h
end
end DS
end Mine
end
/-! part Items -/
section
theorem Mine.startItems : True := by
  w_top off
  exact trivial
open PySem PySem.W PyProof.Rows PySem.Calls PySem.Spec
set_option Elab.async false
set_option maxRecDepth 100000
namespace Mine
/-! the items of a dict's subclass: its iterator over the entries as they lie -/
section
variable {prog : Program} {w : World} {A : Around} {E : Value → Shared → Prop} {s : Shared}
abbrev itObj (d : Addr) (i n ep : Nat) (t ok ov : Value) : Obj := { cls := .type "dict_itemiterator", dict := none, data := .fields #[t, .bool false, .ref d, .int i 0, .int n 0, .int ep 0, ok, ov], slots := #[] }
theorem it_iter {v d : Addr} {od : Obj} {es : Array DictEntry} {ep : Nat} {Q : Value → Shared → Prop} (hv : s.heap.IsItemsView v d) (ho : s.heap.get? d = some od) (hd : od.data = .dict es ep)
    (hQ : Q (.ref s.heap.objs.size) { s with heap := s.heap.push (itObj d 0 es.size ep .none .none .none) }) :
    wpAny (model prog w) A (pyIter (.ref v)) Q E s := by
  obtain ⟨ov, hov, hcv, hdv⟩ := id hv
  refine wpAny_pyIter_slot hv.typeIs F.slot_dict_items_iter (wpAny_call_entry F.slot_dict_items_iter hv.typeIs F.entry_dict_items_iter ?_ (F.args_dict_items_iter_1 _))
  unfold Builtin.«dict_items.__iter__»
  refine wpAny_bind (wpAny_pure (wpAny_bind ?_))
  unfold Builtin.Dict_items.dictOf
  refine wpAny_bind (wpAny_field hov hdv (x := .ref d) rfl (wpAny_pure (wpAny_bind ?_)))
  unfold Builtin.Dict_items.newIterator
  refine wpAny_bind (wpAny_dictEntries ho hd (wpAny_bind (wpAny_dictEpoch ho hd ?_)))
  simp only [show Builtin.Dict_items.ownsTuple "dict_itemiterator" = true by decide, if_true]
  refine wpAny_newObj_type (wpAny_pure ⟨_, rfl, "dict_itemiterator", _, ⟨_, Heap.get?_push_size _ rfl, rfl⟩, F.slot_dict_itemiterator_next.lookup, ?_⟩)
    (by simp only [sizeOk, Builtin.Dict_items.ownedTupleFields, List.size_toArray, List.length_append, List.length_cons, List.length_nil, sizeLine_eq]; omega)
  simpa [rawInt, itObj, Builtin.Dict_items.ownedTupleFields] using hQ
theorem it_next {it d : Addr} {i ep : Nat} {od : Obj} {es : Array DictEntry} {e : DictEntry} {ok ov : Value} {Q : Option Value → Shared → Prop} (hit : IsItemIter s.heap it d i es.size ep ok ov)
    (hod : s.heap.get? d = some od) (hdd : od.data = .dict es ep) (hx : es[i]? = some e)
    (hQ : ∀ h', IsItemIterOut h' it d (i + 1) es.size ep e.key e.val s.heap.objs.size →
      h'.get? s.heap.objs.size = some { cls := .type "tuple", data := .seq #[e.key, e.val] } → h'.objs.size = s.heap.objs.size + 1 →
      (∀ b o, b ≠ it → s.heap.get? b = some o → h'.get? b = some o) → Q (some (.ref s.heap.objs.size)) { s with heap := h' }) :
    wpAny (model prog w) A (pyNext (.ref it)) Q E s := by
  obtain ⟨hp, g, dr, tk, os⟩ := s
  have hT : Shared.TypeIs ⟨hp, g, dr, tk, os⟩ (.ref it) "dict_itemiterator" := ⟨_, hit, rfl⟩
  obtain ⟨hlt, hxe⟩ := Array.getElem?_eq_some_iff.mp hx
  unfold pyNext
  refine wpAny_bind (wpAny_attempt (wpAny_callSpecial?_slot (name := Str.ofString "__next__") hT F.slot_dict_itemiterator_next
    (wpAny_call_entry F.slot_dict_itemiterator_next hT F.entry_dict_itemiterator_next ?_ (F.args_dict_itemiterator_next_1 _))))
  refine wpAny_bind (wpAny_pure (wpAny_bind (wpAny_bind ?_)))
  first | refine wpAny_bind (wpAny_typeNameOfWhole_itemiter hT (wpAny_pure ?_)) | refine wpAny_bind (wpAny_typeNameOf_itemiter hT (wpAny_pure ?_))
  refine wpAny_bind (wpAny_fieldsOf hit rfl ?_)
  have hown : Builtin.Dict_items.ownsTuple "dict_itemiterator" = true := by decide
  simp only [hown, if_true]
  show wpAny _ _ (if (Value.ref d == Value.none) = true then _ else _) _ _ _
  rw [if_neg (show ¬ ((Value.ref d == Value.none) = true) from Bool.false_ne_true)]
  refine wpAny_bind (wpAny_pure (wpAny_bind (wpAny_dictEntries hod hdd ?_)))
  rw [if_neg (by simp)]
  refine wpAny_bind (wpAny_pure (wpAny_bind (wpAny_dictEpoch hod hdd ?_)))
  rw [if_neg (by simp)]
  refine wpAny_pure ?_
  simp only [show ¬ ((i : Int) < 0) from by omega, if_false, Int.toNat_natCast, Array.getElem?_eq_getElem hlt]
  rw [hxe]
  refine wpAny_bind ?_
  first | refine wpAny_bind (wpAny_typeNameOfWhole_itemiter hT (wpAny_pure ?_)) | refine wpAny_bind (wpAny_typeNameOf_itemiter hT (wpAny_pure ?_))
  refine wpAny_bind (wpAny_isOneOf_itemiter hT ?_)
  show wpAny _ _ (setField (.ref it) 3 (rawInt ((i : Int) + 1)) >>= _) _ _ ⟨hp, g, dr, tk, os⟩
  refine wpAny_bind (wpAny_setField_rec hit (by simp) fun h₁ he₁ hs₁ => ?_)
  replace hs₁ : Heap.SameBut it hp h₁ := hs₁
  replace he₁ : IsItemIter h₁ it d (i + 1) es.size ep ok ov := by
    have e : ((i + 1 : Nat) : Int) = (i : Int) + 1 := by omega
    unfold IsItemIter; rw [e]; simpa [rawInt] using he₁
  have hT₁ : Shared.TypeIs ⟨h₁, g, dr, tk, os⟩ (.ref it) "dict_itemiterator" := ⟨_, he₁, rfl⟩
  refine wpAny_bind (wpAny_holding (wpAny_bind (wpAny_isOneOf_itemiter hT₁ (wpAny_bind (wpAny_isOneOf_itemiter hT₁ ?_)))))
  show wpAny _ _ (Builtin.Dict_items.pairFromOwner (.ref it) 6 e.key e.val) _ _ ⟨h₁, g, dr, tk, os⟩
  unfold Builtin.Dict_items.pairFromOwner
  refine wpAny_bind (wpAny_newTuple ?_)
  have he₂ : IsItemIter (h₁.push { cls := .type "tuple", data := .seq #[e.key, e.val] }) it d (i + 1) es.size ep ok ov := Heap.get?_push_of_some _ he₁
  generalize hh₂ : h₁.push { cls := .type "tuple", data := .seq #[e.key, e.val] } = h₂ at he₂
  have hz₁ : h₁.objs.size = hp.objs.size := hs₁.1
  have hil : it < hp.objs.size := Heap.lt_size hit
  have ht₂ : h₂.get? hp.objs.size = some { cls := .type "tuple", data := .seq #[e.key, e.val] } := by rw [← hh₂, ← hz₁]; exact Heap.get?_push_size _ rfl
  have hz₂ : h₂.objs.size = hp.objs.size + 1 := by rw [← hh₂, Heap.size_push, hz₁]
  have hk₂ : ∀ b o, b ≠ it → hp.get? b = some o → h₂.get? b = some o := fun b o hb e => by rw [← hh₂]; exact Heap.get?_push_of_some _ (hs₁.extBut b o hb e)
  show wpAny _ _ (Builtin.Dict_items.ownedTupleIsFree (.ref it) >>= _) _ _ ⟨h₂, g, dr, tk, os⟩
  rw [hz₁]
  clear hh₂ he₁ hs₁ hT₁ hz₁ h₁
  refine wpAny_bind ?_
  unfold Builtin.Dict_items.ownedTupleIsFree
  refine wpAny_bind (wpAny_field he₂ rfl (x := .none) rfl (wpAny_pure ?_))
  simp only [if_true]
  refine wpAny_bind (wpAny_field he₂ rfl (x := ok) rfl (wpAny_bind (wpAny_field he₂ rfl (x := ov) rfl ?_)))
  refine wpAny_bind (wpAny_setField_rec he₂ (by simp) fun h₃ he₃ hs₃ => ?_)
  replace hs₃ : Heap.SameBut it h₂ h₃ := hs₃
  replace he₃ : IsItemIter h₃ it d (i + 1) es.size ep e.key ov := he₃
  refine wpAny_bind (wpAny_setField_rec he₃ (by simp) fun h₄ he₄ hs₄ => ?_)
  replace hs₄ : Heap.SameBut it h₃ h₄ := hs₄
  replace he₄ : IsItemIter h₄ it d (i + 1) es.size ep e.key e.val := he₄
  refine wpAny_bind (wpAny_setField_rec he₄ (by simp) fun h₅ he₅ hs₅ => ?_)
  replace hs₅ : Heap.SameBut it h₄ h₅ := hs₅
  replace he₅ : IsItemIterOut h₅ it d (i + 1) es.size ep e.key e.val hp.objs.size := he₅
  refine wpAny_bind (wpAny_setField_rec he₅ (by simp) fun h₆ he₆ hs₆ => ?_)
  replace hs₆ : Heap.SameBut it h₅ h₆ := hs₆
  replace he₆ : IsItemIterOut h₆ it d (i + 1) es.size ep e.key e.val hp.objs.size := he₆
  refine wpAny_bind (wpAny_letGo (wpAny_pure (wpAny_pure ⟨_, rfl, wpAny_pure (hQ h₆ he₆ ?_ ?_ ?_)⟩)))
  · exact hs₆.extBut _ _ (Nat.ne_of_gt hil) (hs₅.extBut _ _ (Nat.ne_of_gt hil) (hs₄.extBut _ _ (Nat.ne_of_gt hil) (hs₃.extBut _ _ (Nat.ne_of_gt hil) ht₂)))
  · show h₆.objs.size = hp.objs.size + 1
    rw [hs₆.1, hs₅.1, hs₄.1, hs₃.1, hz₂]
  · exact fun b o hb e => hs₆.extBut b o hb (hs₅.extBut b o hb (hs₄.extBut b o hb (hs₃.extBut b o hb (hk₂ b o hb e))))
theorem it_end {it d : Addr} {i ep : Nat} {od : Obj} {es : Array DictEntry} {ok ov : Value} {Q : Option Value → Shared → Prop} (hh : A.handled = none) (hit : IsItemIter s.heap it d i es.size ep ok ov)
    (hod : s.heap.get? d = some od) (hdd : od.data = .dict es ep) (hge : es.size ≤ i)
    (hQ : ∀ h', Heap.ExtBut it s.heap h' → Q none { s with heap := h' }) : wpAny (model prog w) A (pyNext (.ref it)) Q E s := by
  have hT : s.TypeIs (.ref it) "dict_itemiterator" := ⟨_, hit, rfl⟩
  unfold pyNext
  refine wpAny_bind (wpAny_attempt (wpAny_callSpecial?_slot (name := Str.ofString "__next__") hT F.slot_dict_itemiterator_next
    (wpAny_call_entry F.slot_dict_itemiterator_next hT F.entry_dict_itemiterator_next ?_ (F.args_dict_itemiterator_next_1 _))))
  refine wpAny_bind (wpAny_pure (wpAny_bind (wpAny_bind ?_)))
  first | refine wpAny_bind (wpAny_typeNameOfWhole_itemiter hT (wpAny_pure ?_)) | refine wpAny_bind (wpAny_typeNameOf_itemiter hT (wpAny_pure ?_))
  refine wpAny_bind (wpAny_fieldsOf hit rfl ?_)
  have hown : Builtin.Dict_items.ownsTuple "dict_itemiterator" = true := by decide
  simp only [hown, if_true]
  show wpAny _ _ (if (Value.ref d == Value.none) = true then _ else _) _ _ s
  rw [if_neg (show ¬ ((Value.ref d == Value.none) = true) from Bool.false_ne_true)]
  refine wpAny_bind (wpAny_pure (wpAny_bind (wpAny_dictEntries hod hdd ?_)))
  rw [if_neg (by simp)]
  refine wpAny_bind (wpAny_pure (wpAny_bind (wpAny_dictEpoch hod hdd ?_)))
  rw [if_neg (by simp)]
  refine wpAny_pure ?_
  simp only [show ¬ ((i : Int) < 0) from by omega, if_false, Int.toNat_natCast, Array.getElem?_eq_none hge]
  refine wpAny_bind ?_
  first | refine wpAny_bind (wpAny_typeNameOfWhole_itemiter hT (wpAny_pure ?_)) | refine wpAny_bind (wpAny_typeNameOf_itemiter hT (wpAny_pure ?_))
  show wpAny _ _ (setField (.ref it) 2 .none >>= _) _ _ s
  refine wpAny_bind (wpAny_setField hit rfl (by simp) ?_)
  show wpAny _ _ (newExc (.type "StopIteration") [] >>= _) _ _ _
  refine wpAny_bind ?_
  simp only [newExc, newTuple]
  refine wpAny_bind (wpAny_newObj_type ?_ (by size_fits))
  refine wpAny_bind (m := firstArgMember _ _) (wpAny_of_eq (a := Value.none) (by first | rfl | (simp only [firstArgMember]; rfl)) ?_)
  refine wpAny_newObj_type ?_ (by size_fits)
  simp only [raiseNew]
  refine wpAny_bind (wpAny_handled ?_)
  rw [show A.in1.handled = none from hh]
  refine wpAny_bind (wpAny_pure (wpAny_throw ?_))
  refine wpAny_bind (wpAny_isInstance (T := "StopIteration") (b := true) ⟨_, Heap.get?_push_size _ rfl, rfl⟩ isSubtype_stop ?_)
  exact wpAny_pure (hQ _ (((Heap.SameBut.update ..).extBut.push _).push _))
/-- the iterator as a walk over pairs -/
theorem WalksU.itemsP (hh : A.handled = none) (I d : Addr) (hne : d ≠ I) (od : Obj) (es : Array DictEntry) (ep : Nat) (hdd : od.data = .dict es ep) :
    WalksU prog w A I [I, d] [I] es.size (fun i vals => ∃ e, es[i]? = some e ∧ vals = #[e.key, e.val])
      (fun i h => h.get? d = some od ∧ ∃ ok ov, IsItemIter h I d i es.size ep ok ov)
      (fun i T h => T ≠ I ∧ h.get? d = some od ∧ ∃ ok ov, IsItemIterOut h I d (i + 1) es.size ep ok ov T) where
  sub := fun b hb => by rw [List.mem_singleton.mp hb]; exact .head _
  frame := fun i h h' st k => ⟨k d (.tail _ (.head _)) _ st.1, let ⟨ok, ov, e⟩ := st.2; ⟨ok, ov, k I (.head _) _ e⟩⟩
  item := fun i s Q E hi st hQ => by
    obtain ⟨hd, ok, ov, hit⟩ := st
    refine it_next hit hd hdd (Array.getElem?_eq_getElem hi) fun h' h1 h2 h3 h4 => ?_
    exact hQ _ _ h' s.toks ⟨_, Array.getElem?_eq_getElem hi, rfl⟩ ⟨_, h2, rfl, _, rfl⟩ ⟨Nat.ne_of_gt (Heap.lt_size hit), h4 _ _ hne hd, _, _, h1⟩ fun b o hb e => h4 b o (by simpa using hb) e
  go := fun elts k pos i T s Q E mid hQ => by
    obtain ⟨hT, hd, ok, ov, ho⟩ := mid
    refine wpAny_letOwnedTupleGo_items ho fun h' h1 h2 => ?_
    exact hQ h' ⟨h2.extBut _ _ hne hd, _, _, h1⟩ fun b o hb e => h2.extBut b o (by simpa using hb) e
  apart := fun i T h m => by simpa using m.1
  done := fun s Q E st hQ => by
    obtain ⟨hd, ok, ov, hit⟩ := st
    exact it_end hh hit hd hdd (Nat.le_refl _) fun h' k => hQ h' s.toks fun b o hb e => k b o (by simpa using hb) e
  self := fun i s Q E st hQ => by
    obtain ⟨hd, ok, ov, hit⟩ := st
    exact kcp_self hit hQ
end
end Mine
end
/-! part Uni -/
section
theorem Mine.startUni : True := by
  w_top off
  exact trivial
local macro_rules | `(tactic| walk_at "pad0") => `(tactic| skip)
open PySem PySem.W PyProof.Rows PySem.Calls PySem.Spec
set_option Elab.async false
set_option maxRecDepth 100000
namespace Mine
local macro_rules | `(tactic| k_room) => `(tactic| ktr_room)
local macro_rules | `(tactic| k_units) => `(tactic| ktr_units)
local macro_rules | `(tactic| k_all) => `(tactic| assumption)
set_option pp.deepTerms false
set_option pp.maxSteps 3000
set_option maxHeartbeats 4000000 in
theorem uni_w {w : World} {mean : ExcName → Option Value} {mg mb : Str → Option Value} {A : Around} {s : Shared} {Q E : Value → Shared → Prop} {x : Str} {t : Tok}
    (X : (K0 w.params).In s.heap) (T : Top hd.view_39 loos mean mg mb s.heap) (hd1 : A.depth < recursionLimit)
    (hret : ∀ h' tk', (∀ b o, s.heap.get? b = some o → h'.get? b = some o) → Q (.str x t) { s with heap := h', toks := tk' }) :
    wpAny (model PySem.Challenge.rw_bl0007_01.row.prog w) A (call (.ref 46) [.str x t]) Q E s := by
  revert X; k_fill; intro X
  refine wpAny_call ?_
  refine' plain_def (binds := [(Str.ofString "value", .str x t), (Str.ofString "encoding", .str (Str.ofString "utf-8-sig") 293)]) X T ?ho ?hcd ?hroom ?hb ?hl ?_ ?c2 ?c3 ?c4 ?c5
  case ho => k_is
  case hcd => k_is
  case hroom => assumption
  case hb => exact binds_K (by k_in) rfl (by k_is) rfl rfl rfl
  case hl => exact locs rfl
  case c2 => rfl
  case c3 => rfl
  case c4 => rfl
  case c5 => decide
  intro L' h₁ tk0 htk F' N'
  dsimp only
  k_steps
  exact hret _ _ F'.keep
end Mine
end
/-! part Dset -/
section
theorem Mine.startDset : True := by
  w_top off
  exact trivial
local macro_rules | `(tactic| walk_at "pad0") => `(tactic| skip)
local macro_rules | `(tactic| walk_at "pad1") => `(tactic| skip)
open PySem PySem.W PyProof.Rows PySem.Calls PySem.Spec
set_option Elab.async false
set_option maxRecDepth 100000
namespace Mine
section
variable {prog : Program} {w : World} {A : Around} {s : Shared} {h₀ : Heap} {L : Addr} {m : Str → Option Value} {news : List (Addr × Obj)} {K : Frag}
  {R : Result → Shared → Prop} {name qual : Str} {params : Arguments} {body : List Stmt} {scope : Scope} {dV kV doc pm cdv ct oc : Value} {an od : Option Addr} {osl : Array (Option Value)} {f : Addr} {args : Args} {binds : List (Str × Value)}
  {cl : List (Str × Addr)} {mean : ExcName → Option Value} {mg mb : Str → Option Value} {p : Program} {loose : List Str}
/-- def_k where the activation must be known: super() -/
theorem def_kAt (F : Fr h₀ L s.heap m) (X₀ : K.In h₀) (N : News h₀ L s.heap news) (T : Top p loose mean mg mb h₀)
    (ho : K.lookup f = some ⟨oc, od, .func (fnX name qual params body scope cl dV kV doc pm an cdv ct), osl⟩) (hcd : codeIn K cdv qual = true) (hroom : A.depth < recursionLimit)
    (hbind : BindsTo s (fnX name qual params body scope cl dV kV doc pm an cdv ct) args binds) (hloc : ∀ y ∈ binds, scope.names.lookup y.1 = some .local)
    (h : ∀ g L' h₁ tk, s.toks + binds.length = tk → Fr h₀ L g m → Fr g L' h₁ (fun y => binds.reverse.lookup y) → News g L' h₁ news → K.In g → Top p loose mean mg mb g → (∀ q ∈ news, q.1 < L') →
      PySem.wpAt (model prog w) (A.deeper (envX qual scope L' f cdv cl)) (.func body (envX qual scope L' f cdv cl)) (execs body (envX qual scope L' f cdv cl))
        (fun fl s' => LeaveK h₀ L m g R (match fl with | .ret v => v | _ => .none) s')
        (fun e s' => wpAny (model prog w) (A.deeper (envX qual scope L' f cdv cl)) (leaving (envX qual scope L' f cdv cl) e) (fun _ s'' => R (.error e) s'') (fun e' s'' => R (.error e') s'') s')
        { s with heap := h₁, toks := tk })
    (hco : scope.isCoroutine = false) (hgen : scope.isGenerator = false) (hk : scope.kind = .function)
    (hcell : ∀ x ∈ scope.names, x.2 ≠ .cell) : codeAny (model prog w) A (.call (.ref f) args) R s := by
  obtain ⟨FG, st, lv⟩ := ground_k (R := R) F N
  refine ks_codeAny_call_defAt (fd := fnX name qual params body scope cl dV kV doc pm an cdv ct) (body := body) (binds := binds) hroom ((X₀.keeps F.keep) _ _ ho) rfl (T.nolimit.keeps F.keep) (codeRec_of (X₀.keeps F.keep) hcd) rfl hbind hcell hloc (fun h₁ hns hk₁ => ?_) hco hgen hk
  exact ks_wpAt_mono (h _ s.heap.objs.size h₁ _ rfl FG ⟨hns, fun b o e => hk₁ b o (of_hideAll _ e), Nat.le_of_eq (hideAll_size _ _)⟩
    (fun q hq => ⟨hk₁ _ _ (N q hq).1, Nat.ne_of_lt (Heap.lt_size (N q hq).1), hideAll_none _ (List.mem_map_of_mem hq)⟩) (X₀.keeps st) (T.keeps st) fun q hq => Heap.lt_size (N q hq).1) (fun _ _ hl => lv _ _ hl) fun _ _ y => y
end
section Set
open DS
local macro_rules | `(tactic| walk_at "call ref") => `(tactic| refine TEnd.out ?_)
local macro_rules | `(tactic| walk_at "And") => `(tactic| refine ⟨News.get (by assumption) (.head _), ?_⟩)
local macro_rules | `(tactic| walk_at "wpAt") => `(tactic| (ks_step "exec Expr"; refine TEnd.out ?_))
local macro_rules | `(tactic| walk_at "getMethod ref") => `(tactic| refine TEnd.out ?_)
local macro_rules | `(tactic| k_room) => `(tactic| ktr_room)
local macro_rules | `(tactic| k_units) => `(tactic| ktr_units)
local macro_rules | `(tactic| k_all) => `(tactic| assumption)
set_option pp.deepTerms false
set_option pp.maxSteps 3000
set_option maxHeartbeats 4000000 in
theorem setitem_w {w : World} {mean : ExcName → Option Value} {mg mb : Str → Option Value} {A : Around} {s : Shared} {Q E : Value → Shared → Prop} {h₀ : Heap} {L : Addr} {m : Str → Option Value} {D Dd : Addr} {es : Array DictEntry} {ep : Nat} {kvs : List (Str × Value)} {k : Str} {t : Tok} {v : Value} {news : List (Addr × Obj)} {g : Obj → List (Addr × Obj)}
    (F : Fr h₀ L s.heap m) (X : (K0 w.params).In h₀) (N : News h₀ L s.heap news) (T : Top hd.view_39 loos mean mg mb h₀) (hd1 : A.depth + 20 < recursionLimit)
    {oDd : Obj} (hDd : (Dd, oDd) ∈ news) (U : UpdF D (pob 282 Dd es ep) news g) (he : Ents es.toList kvs) (hk : Txt.upper k ∉ kvs.map (·.1)) (hsz : kvs.length ≤ 1000) (hkl : k.length ≤ 1000)
    (hret : ∀ h' tk' es' ep', Fr h₀ L h' m → News h₀ L h' (g (pob 282 Dd es' ep')) → Ents es'.toList (kvs ++ [(Txt.upper k, v)]) → Q .none { s with heap := h', toks := tk' }) :
    wpAny (model PySem.Challenge.rw_bl0007_01.row.prog w) A (call (.ref 78) [.ref D, .str k t, v]) Q E s := by
  revert X; k_fill; intro X
  refine wpAny_call ?_
  refine' def_kAt (binds := [(Str.ofString "self", .ref D), (Str.ofString "key", .str k t), (Str.ofString "value", v)]) F X N T ?ho ?hcd ?hroom ?hb ?hl ?_ ?c2 ?c3 ?c4 ?c5
  case ho => k_is
  case hcd => k_is
  case hroom => omega
  case hb => exact BindsTo.of_eq rfl
  case hl => exact locs rfl
  case c2 => rfl
  case c3 => rfl
  case c4 => rfl
  case c5 => decide
  intro g1 L' h₁ tk0 htk FG F' N' X' T' hlt
  dsimp only
  k_steps
  refine TEnd.mk ?_
  refine uni_w (X'.keeps F'.keep) (T'.keeps F'.keep) (by show A.depth + 1 < _; omega) fun h2 tk2 hk2 => ?_
  have F2 := F'.keeps hk2
  have N2 := N'.grown hk2
  clear F' N'
  k_steps
  refine TEnd.mk ?_
  refine ks_wpAt_Expr_any ?_
  refine ks_wpAt_MethodCall ?_
  rename_i h3 F3 N3
  refine ks_node (x := D) (cdD := _) (C := 282) (odx := some oDd) (ox := pob 282 Dd es ep) F3 X' N3 T' (by k_is) rfl rfl ⟨(N3 _ (updF_mem U)).1, rfl, rfl, (N3 _ hDd).1⟩ (by k_is) (by rfl) (by first | rfl | decide +kernel) (by k_is) (by k_is) (by k_is) (by k_is) (by decide) (by rfl) (by rfl) (by rfl) (by rfl) (by decide +kernel) (by first | boot_by_name | rfl | kernel_rfl) ?_
  intro so h4 F4 N4 l4
  refine supK_set (x := D) (C := 282) (odx := some oDd) (ox := pob 282 Dd es ep) F4 X' N4 (.head _) ⟨(N4 _ (.tail _ (updF_mem U))).1, rfl, rfl, (N4 _ (.tail _ hDd)).1⟩ (by k_is) (by ks_is) (by k_is) ?_
  intro q h5 F5 N5 l5
  clear F3 N3 F4 N4
  dsimp only
  refine callWith_bnd (bT := "method-wrapper") (id := "dict.__setitem__") (x := D) (by decide) N5 (.head _) ?_
  k_steps
  · exact N5.get (.head _)
  · refine TEnd.mk ?_
    have hqn : ∀ p ∈ news, p.1 ≠ q := fun p hp e => absurd (l5 p (.tail _ hp)) (by rw [e]; exact Nat.lt_irrefl _)
    have hsn : ∀ p ∈ news, p.1 ≠ so := fun p hp e => absurd (l4 p hp) (by rw [e]; exact Nat.lt_irrefl _)
    have hDq : q ≠ D := fun e => hqn _ (updF_mem U) e.symm
    have hDs : so ≠ D := fun e => hsn _ (updF_mem U) e.symm
    refine call_set F5 X' N5 (.head _) (.tail hDq (.tail hDs U)) he (by k_is) hk hsz ?_
    intro h6 es6 ep6 F6 N6 he6
    dsimp only
    k_steps
    exact hret _ _ es6 ep6 (by assumption) (by
      have N9 := (by assumption : News h₀ L h6 _)
      exact fun p hp => N9 p (.tail _ (.tail _ hp))) he6
end Set
end Mine
end
/-! part Dget -/
section
theorem Mine.startDget : True := by
  w_top off
  exact trivial
local macro_rules | `(tactic| walk_at "pad0") => `(tactic| skip)
local macro_rules | `(tactic| walk_at "pad1") => `(tactic| skip)
local macro_rules | `(tactic| walk_at "pad2") => `(tactic| skip)
local macro_rules | `(tactic| walk_at "pad3") => `(tactic| skip)
local macro_rules | `(tactic| walk_at "pad4") => `(tactic| skip)
local macro_rules | `(tactic| walk_at "pad5") => `(tactic| skip)
local macro_rules | `(tactic| walk_at "pad6") => `(tactic| skip)
open PySem PySem.W PyProof.Rows PySem.Calls PySem.Spec
set_option Elab.async false
set_option maxRecDepth 100000
namespace Mine
section Get
open DS
local macro_rules | `(tactic| walk_at "call ref") => `(tactic| refine TEnd.out ?_)
local macro_rules | `(tactic| walk_at "And") => `(tactic| refine ⟨News.get (by assumption) (.head _), ?_⟩)
local macro_rules | `(tactic| walk_at "wpAt") => `(tactic| (ks_step "exec Return"; refine TEnd.out ?_))
local macro_rules | `(tactic| walk_at "getMethod ref") => `(tactic| refine TEnd.out ?_)
local macro_rules | `(tactic| k_room) => `(tactic| ktr_room)
local macro_rules | `(tactic| k_units) => `(tactic| ktr_units)
local macro_rules | `(tactic| k_all) => `(tactic| assumption)
set_option pp.deepTerms false
set_option pp.maxSteps 3000
set_option maxHeartbeats 4000000 in
theorem getitem_w {w : World} {mean : ExcName → Option Value} {mg mb : Str → Option Value} {A : Around} {s : Shared} {Q E : Value → Shared → Prop} {h₀ : Heap} {L : Addr} {m : Str → Option Value} {D Dd : Addr} {es : Array DictEntry} {ep : Nat} {kvs : List (Str × Value)} {k : Str} {t : Tok} {v : Value} {news : List (Addr × Obj)}
    (F : Fr h₀ L s.heap m) (X : (K0 w.params).In h₀) (N : News h₀ L s.heap news) (T : Top hd.view_39 loos mean mg mb h₀) (hd1 : A.depth + 20 < recursionLimit)
    {oDd : Obj} (hDd : (Dd, oDd) ∈ news) (hDm : (D, pob 282 Dd es ep) ∈ news) (he : Ents es.toList kvs) (hk : kvs.lookup (Txt.upper k) = some v) (hkl : k.length ≤ 1000)
    (hret : ∀ h' tk', Fr h₀ L h' m → News h₀ L h' news → Q v { s with heap := h', toks := tk' }) :
    wpAny (model PySem.Challenge.rw_bl0007_01.row.prog w) A (call (.ref 70) [.ref D, .str k t]) Q E s := by
  revert X; k_fill; intro X
  refine wpAny_call ?_
  refine' def_kAt (binds := [(Str.ofString "self", .ref D), (Str.ofString "key", .str k t)]) F X N T ?ho ?hcd ?hroom ?hb ?hl ?_ ?c2 ?c3 ?c4 ?c5
  case ho => k_is
  case hcd => k_is
  case hroom => omega
  case hb => exact BindsTo.of_eq rfl
  case hl => exact locs rfl
  case c2 => rfl
  case c3 => rfl
  case c4 => rfl
  case c5 => decide
  intro g1 L' h₁ tk0 htk FG F' N' X' T' hlt
  dsimp only
  k_steps
  refine TEnd.mk ?_
  refine uni_w (X'.keeps F'.keep) (T'.keeps F'.keep) (by show A.depth + 1 < _; omega) fun h2 tk2 hk2 => ?_
  have F2 := F'.keeps hk2
  have N2 := N'.grown hk2
  clear F' N'
  k_steps
  refine TEnd.mk ?_
  refine ks_wpAt_Return_some ?_
  refine ks_wpAt_MethodCall ?_
  rename_i h3 F3 N3
  refine ks_node (x := D) (cdD := _) (C := 282) (odx := some oDd) (ox := pob 282 Dd es ep) F3 X' N3 T' (by k_is) rfl rfl ⟨(N3 _ (hDm)).1, rfl, rfl, (N3 _ hDd).1⟩ (by k_is) (by rfl) (by first | rfl | decide +kernel) (by k_is) (by k_is) (by k_is) (by k_is) (by decide) (by rfl) (by rfl) (by rfl) (by rfl) (by decide +kernel) (by first | boot_by_name | rfl | kernel_rfl) ?_
  intro so h4 F4 N4 l4
  refine supK_get (x := D) (C := 282) (odx := some oDd) (ox := pob 282 Dd es ep) F4 X' N4 (.head _) ⟨(N4 _ (.tail _ (hDm))).1, rfl, rfl, (N4 _ (.tail _ hDd)).1⟩ (by k_is) (by ks_is) (by k_is) ?_
  intro q h5 F5 N5 l5
  clear F3 N3 F4 N4
  dsimp only
  refine callWith_bnd (bT := "builtin_function_or_method") (id := "dict.__getitem__") (x := D) (by decide) N5 (.head _) ?_
  k_steps
  · exact N5.get (.head _)
  · refine TEnd.mk ?_
    refine call_get (C := 282) F5 X' N5 (.head _) (N5 _ (.tail _ (.tail _ hDm))).1 he (by k_is) (by k_is) (by rfl) (by rfl) hk ?_
    dsimp only
    k_steps
    exact hret _ _ (by assumption) (by
      have N9 := (by assumption : News h₀ L _ _)
      exact fun p hp => N9 p (.tail _ (.tail _ hp)))
end Get
end Mine
end
/-! part Stark -/
section
theorem Mine.startStark : True := by
  w_top off
  exact trivial
open PySem PySem.W PyProof.Rows PySem.Calls PySem.Spec
set_option Elab.async false
set_option maxRecDepth 100000
namespace Mine
section
variable {prog : Program} {w : World} {A : Around} {s : Shared} {h₀ : Heap} {L : Addr} {m : Str → Option Value} {news : List (Addr × Obj)} {K : Frag}
  {R : Result → Shared → Prop} {name qual : Str} {params : Arguments} {body : List Stmt} {scope : Scope} {dV kV doc pm cdv ct oc : Value} {an od : Option Addr} {osl : Array (Option Value)} {f : Addr} {args : Args}
  {cl : List (Str × Addr)} {mean : ExcName → Option Value} {mg mb : Str → Option Value} {p : Program} {loose : List Str}
/-- star_def without frames, the activation known -/
theorem star_kAt {n0 va kw : Str} {self : Value} {vs : List Value}
    (F : Fr h₀ L s.heap m) (X₀ : K.In h₀) (N : News h₀ L s.heap news) (T : Top p loose mean mg mb h₀)
    (ho : K.lookup f = some ⟨oc, od, .func (fnX name qual params body scope cl dV kV doc pm an cdv ct), osl⟩) (hcd : codeIn K cdv qual = true) (hroom : A.depth < recursionLimit)
    (hbind : bindArgs (fnX name qual params body scope cl dV kV doc pm an cdv ct) ⟨self :: vs, []⟩ = (newTuple vs >>= fun t => alloc { cls := .type "dict", data := .dict #[] } >>= fun d => pure [(n0, self), (va, t), (kw, .ref d)]))
    (hvs : vs.length ≤ 4)
    (hloc : ∀ y ∈ ([(n0, .none), (va, .none), (kw, .none)] : List (Str × Value)), scope.names.lookup y.1 = some .local)
    (h : ∀ g L' h₁ t d, Fr h₀ L g m → Fr g L' h₁ (fun y => ([(n0, self), (va, .ref t), (kw, .ref d)] : List (Str × Value)).reverse.lookup y) → News g L' h₁ ((d, dictOf [] 0) :: (t, tupOf vs) :: news) → K.In g → Top p loose mean mg mb g →
      t < d → (∀ q ∈ news, q.1 < t) → d < L' →
      PySem.wpAt (model prog w) (A.deeper (envX qual scope L' f cdv cl)) (.func body (envX qual scope L' f cdv cl)) (execs body (envX qual scope L' f cdv cl))
        (fun fl s' => LeaveK h₀ L m g R (match fl with | .ret v => v | _ => .none) s')
        (fun e s' => wpAny (model prog w) (A.deeper (envX qual scope L' f cdv cl)) (leaving (envX qual scope L' f cdv cl) e) (fun _ s'' => R (.error e) s'') (fun e' s'' => R (.error e') s'') s')
        { s with heap := h₁, toks := s.toks + 3 })
    (hco : scope.isCoroutine = false) (hgen : scope.isGenerator = false) (hk : scope.kind = .function)
    (hcell : ∀ x ∈ scope.names, x.2 ≠ .cell) : codeAny (model prog w) A (.call (.ref f) ⟨self :: vs, []⟩) R s := by
  have N1 := N.push F (tupOf vs)
  have F1 := F.push (tupOf vs)
  have N2 := N1.push F1 (dictOf [] 0)
  have F2 := F1.push (dictOf [] 0)
  obtain ⟨FG, st, lv⟩ := ground_k (s := { s with heap := (s.heap.push (tupOf vs)).push (dictOf [] 0) }) (R := R) F2 N2
  refine codeAny_call_function (fd := fnX name qual params body scope cl dV kV doc pm an cdv ct) (body := body) hroom ((X₀.keeps F.keep) _ _ ho) rfl hco hgen rfl (codeRec_of (X₀.keeps F.keep) hcd) ?_
  rw [hbind]
  refine wpAny_bind (wpAny_newTuple ?_ (by have := PySem.sizeLine_eq; omega))
  refine wpAny_bind (wpAny_alloc (wpAny_pure ?_))
  have hloc' : ∀ y ∈ ([(n0, self), (va, .ref s.heap.objs.size), (kw, .ref (s.heap.push (tupOf vs)).objs.size)] : List (Str × Value)), scope.names.lookup y.1 = some .local := by
    intro y hy
    simp only [List.mem_cons, List.not_mem_nil, or_false] at hy
    rcases hy with rfl | rfl | rfl
    · exact hloc (n0, .none) (by simp)
    · exact hloc (va, .none) (by simp)
    · exact hloc (kw, .none) (by simp)
  refine wpAny_newFunctionEnv (s := { s with heap := (s.heap.push (tupOf vs)).push (dictOf [] 0) }) hcell hloc' (fun h₁ hns hsb => ⟨(T.nolimit.keeps F2.keep).fresh _ hsb, ks_codeAny_funcAt ?_⟩) hk
  have hk₁ : ∀ b o, ((s.heap.push (tupOf vs)).push (dictOf [] 0)).get? b = some o → h₁.get? b = some o := fun b o e => hsb.extBut b o (Nat.ne_of_lt (Heap.lt_size e)) (Heap.get?_push_of_some _ e)
  refine ks_wpAt_mono (h _ _ h₁ s.heap.objs.size (s.heap.push (tupOf vs)).objs.size FG ⟨hns, fun b o e => hk₁ b o (of_hideAll _ e), Nat.le_of_eq (hideAll_size _ _)⟩ (fun p hp => ⟨hk₁ _ _ (N2 p hp).1, Nat.ne_of_lt (Heap.lt_size (N2 p hp).1), hideAll_none _ (List.mem_map_of_mem hp)⟩) (X₀.keeps st) (T.keeps st)
    (by rw [Heap.size_push]; exact Nat.lt_succ_self _) (fun p hp => Heap.lt_size (N p hp).1) (by simp [Heap.size_push])) (fun fl s' hl => ?_) fun _ _ y => y
  exact lv _ _ hl
end
end Mine
end
/-! part Starc -/
section
theorem Mine.startStarc : True := by
  w_top off
  exact trivial
open PySem PySem.W PyProof.Rows PySem.Calls PySem.Spec
set_option Elab.async false
set_option maxRecDepth 100000
namespace Mine
section
variable {prog : Program} {w : World} {A : Around} {s : Shared} {h₀ : Heap} {L : Addr} {m : Str → Option Value} {news : List (Addr × Obj)} {K : Frag}
  {R : Result → Shared → Prop} {name qual : Str} {params : Arguments} {body : List Stmt} {scope : Scope} {dV kV doc pm cdv ct oc : Value} {an od : Option Addr} {osl : Array (Option Value)} {f : Addr} {args : Args}
  {cl : List (Str × Addr)} {mean : ExcName → Option Value} {mg mb : Str → Option Value} {p : Program} {loose : List Str}
/-- the frame of a def whose **kwargs is a cell -/
theorem newEnv_star {M : Model} {E : Value → Shared → Prop} {globals : Addr} {qual : Str} {func : Option Addr} {code : Value} {builtins : Addr} {n0 va kw : Str} {v0 v1 v2 : Value} {Q : Env → Shared → Prop} (hk : scope.kind = .function)
    (hcf : ∀ n, cellsFrom n scope.names cl = (kw, n) :: cl) (hpc : ∀ h, pushCells h scope.names = h.push { cls := .type "cell", data := .cell none })
    (hl0 : scope.names.lookup n0 = some .local) (hl1 : scope.names.lookup va = some .local) (hl2 : scope.names.lookup kw = some .cell)
    (hQ : ∀ h' tk, h'.Ns s.heap.objs.size (fun x => if x = va then some v1 else if x = n0 then some v0 else none) → h'.IsCell (s.heap.objs.size + 1) (some v2) → (∀ b o, s.heap.get? b = some o → h'.get? b = some o) →
      Q (newEnv scope s.heap.objs.size globals ((kw, s.heap.objs.size + 1) :: cl) qual func code none builtins) { s with heap := h', toks := tk }) :
    wpAny M A (newFunctionEnv scope globals cl [(n0, v0), (va, v1), (kw, v2)] qual func code none builtins) Q E s := by
  simp only [newFunctionEnv, Option.isSome_none, Bool.false_eq_true, if_false]
  refine wpAny_bind (wpAny_alloc ?_)
  refine wpAny_bind (wpAny_layCells _ (fun name kind cells => by cases hkc : kind == NameKind.cell <;> simp [hkc]) _ _ _ _ ?_)
  rw [show ({ s with heap := s.heap.push { cls := .type "frame", data := .dict #[] } } : Shared).heap.objs.size = s.heap.objs.size + 1 from Heap.size_push ..]
  rw [hcf, hpc]
  have hL0 : (s.heap.push { cls := .type "frame", data := .dict #[] }).Ns s.heap.objs.size (fun _ => none) := Heap.Ns.new s.heap (.type "frame")
  have hL1 : ((s.heap.push { cls := .type "frame", data := .dict #[] }).push { cls := .type "cell", data := .cell none }).Ns s.heap.objs.size (fun _ => none) := hL0.keeps fun b o e => Heap.get?_push_of_some _ e
  have hC1 : ((s.heap.push { cls := .type "frame", data := .dict #[] }).push { cls := .type "cell", data := .cell none }).IsCell (s.heap.objs.size + 1) none := ⟨_, by rw [← Heap.size_push s.heap { cls := .type "frame", data := .dict #[] }]; exact Heap.get?_push_size _ rfl, rfl⟩
  have hk1 : ∀ b o, s.heap.get? b = some o → ((s.heap.push { cls := .type "frame", data := .dict #[] }).push { cls := .type "cell", data := .cell none }).get? b = some o := fun b o e => Heap.get?_push_of_some _ (Heap.get?_push_of_some _ e)
  generalize (s.heap.push { cls := .type "frame", data := .dict #[] }).push { cls := .type "cell", data := .cell none } = H at hL1 hC1 hk1
  have hLc : (s.heap.objs.size + 1 : Nat) ≠ s.heap.objs.size := Nat.succ_ne_self _
  have hold : ∀ b o, s.heap.get? b = some o → b ≠ s.heap.objs.size ∧ b ≠ s.heap.objs.size + 1 := fun b o e => ⟨Nat.ne_of_lt (Heap.lt_size e), Nat.ne_of_lt (Nat.lt_succ_of_lt (Heap.lt_size e))⟩
  have kn : ∀ n, (newEnv scope s.heap.objs.size globals ((kw, s.heap.objs.size + 1) :: cl) qual func code none builtins).kindOf n = scope.names.lookup n := fun _ => rfl
  have hp : ((newEnv scope s.heap.objs.size globals ((kw, s.heap.objs.size + 1) :: cl) qual func code none builtins).scope.kind == .class || ((newEnv scope s.heap.objs.size globals ((kw, s.heap.objs.size + 1) :: cl) qual func code none builtins).scope.kind == .module && (newEnv scope s.heap.objs.size globals ((kw, s.heap.objs.size + 1) :: cl) qual func code none builtins).locals != (newEnv scope s.heap.objs.size globals ((kw, s.heap.objs.size + 1) :: cl) qual func code none builtins).globals)) = false := by
    show (scope.kind == .class || (scope.kind == .module && _)) = false
    rw [hk]; rfl
  refine wpAny_bind ?_
  rw [List.forIn_cons]
  refine wpAny_bind (wpAny_bind (wpAny_storeName_local (env := newEnv scope s.heap.objs.size globals ((kw, s.heap.objs.size + 1) :: cl) qual func code none builtins) (hl0) hL1 (fun h2 hn2 hs2 => wpAny_pure ?_) hp))
  dsimp only
  rw [List.forIn_cons]
  refine wpAny_bind (wpAny_bind (wpAny_storeName_local (env := newEnv scope s.heap.objs.size globals ((kw, s.heap.objs.size + 1) :: cl) qual func code none builtins) (hl1) hn2 (fun h3 hn3 hs3 => wpAny_pure ?_) hp))
  dsimp only
  rw [List.forIn_cons]
  have hC3 : h3.IsCell (s.heap.objs.size + 1) none := (hC1.sameBut hs2 hLc).sameBut hs3 hLc
  refine wpAny_bind (wpAny_bind (wpAny_storeName_cell (env := newEnv scope s.heap.objs.size globals ((kw, s.heap.objs.size + 1) :: cl) qual func code none builtins) hk hl2 (by simp [newEnv, List.lookup]) hC3 (fun h4 hc4 hs4 => wpAny_pure ?_)))
  dsimp only
  rw [List.forIn_nil]
  refine wpAny_pure (wpAny_pure (hQ h4 _ (hn3.sameBut hs4 (Ne.symm hLc)) hc4 fun b o e => ?_))
  obtain ⟨n1, n2⟩ := hold b o e
  exact hs4.extBut b o n2 (hs3.extBut b o n1 (hs2.extBut b o n1 (hk1 b o e)))
/-- star_kAt where **kwargs is a cell -/
theorem star_kC {n0 va kw : Str} {self : Value} {vs : List Value}
    (F : Fr h₀ L s.heap m) (X₀ : K.In h₀) (N : News h₀ L s.heap news) (T : Top p loose mean mg mb h₀)
    (ho : K.lookup f = some ⟨oc, od, .func (fnX name qual params body scope cl dV kV doc pm an cdv ct), osl⟩) (hcd : codeIn K cdv qual = true) (hroom : A.depth < recursionLimit)
    (hbind : bindArgs (fnX name qual params body scope cl dV kV doc pm an cdv ct) ⟨self :: vs, []⟩ = (newTuple vs >>= fun t => alloc { cls := .type "dict", data := .dict #[] } >>= fun d => pure [(n0, self), (va, t), (kw, .ref d)]))
    (hvs : vs.length ≤ 4) (hcf : ∀ n, cellsFrom n scope.names cl = (kw, n) :: cl) (hpc : ∀ h, pushCells h scope.names = h.push { cls := .type "cell", data := .cell none })
    (hl0 : scope.names.lookup n0 = some .local) (hl1 : scope.names.lookup va = some .local) (hl2 : scope.names.lookup kw = some .cell)
    (h : ∀ g L' h₁ t d tk oC, oC.data = .cell (some (.ref d)) → Fr h₀ L g m → Fr g L' h₁ (fun x => if x = va then some (.ref t) else if x = n0 then some self else none) → News g L' h₁ ((L' + 1, oC) :: (d, dictOf [] 0) :: (t, tupOf vs) :: news) → K.In g → Top p loose mean mg mb g →
      t < d → (∀ q ∈ news, q.1 < t) → d < L' →
      PySem.wpAt (model prog w) (A.deeper (envX qual scope L' f cdv ((kw, L' + 1) :: cl))) (.func body (envX qual scope L' f cdv ((kw, L' + 1) :: cl))) (execs body (envX qual scope L' f cdv ((kw, L' + 1) :: cl)))
        (fun fl s' => LeaveK h₀ L m g R (match fl with | .ret v => v | _ => .none) s')
        (fun e s' => wpAny (model prog w) (A.deeper (envX qual scope L' f cdv ((kw, L' + 1) :: cl))) (leaving (envX qual scope L' f cdv ((kw, L' + 1) :: cl)) e) (fun _ s'' => R (.error e) s'') (fun e' s'' => R (.error e') s'') s')
        { s with heap := h₁, toks := tk })
    (hco : scope.isCoroutine = false) (hgen : scope.isGenerator = false) (hk : scope.kind = .function) : codeAny (model prog w) A (.call (.ref f) ⟨self :: vs, []⟩) R s := by
  have N1 := N.push F (tupOf vs)
  have F1 := F.push (tupOf vs)
  have N2 := N1.push F1 (dictOf [] 0)
  have F2 := F1.push (dictOf [] 0)
  obtain ⟨FG, st, lv⟩ := ground_k (s := { s with heap := (s.heap.push (tupOf vs)).push (dictOf [] 0) }) (R := R) F2 N2
  refine codeAny_call_function (fd := fnX name qual params body scope cl dV kV doc pm an cdv ct) (body := body) hroom ((X₀.keeps F.keep) _ _ ho) rfl hco hgen rfl (codeRec_of (X₀.keeps F.keep) hcd) ?_
  rw [hbind]
  refine wpAny_bind (wpAny_newTuple ?_ (by have := PySem.sizeLine_eq; omega))
  refine wpAny_bind (wpAny_alloc (wpAny_pure ?_))
  refine newEnv_star (s := { s with heap := (s.heap.push (tupOf vs)).push (dictOf [] 0) }) hk hcf hpc hl0 hl1 hl2 fun h₁ tk hns hc hk₁ => ⟨(T.nolimit.keeps F2.keep).keeps hk₁, ks_codeAny_funcAt ?_⟩
  obtain ⟨oC, hoC, hcd⟩ := hc
  refine ks_wpAt_mono (h _ _ h₁ s.heap.objs.size (s.heap.push (tupOf vs)).objs.size tk oC hcd FG ⟨hns, fun b o e => hk₁ b o (of_hideAll _ e), Nat.le_of_eq (hideAll_size _ _)⟩ (fun p hp => ?_) (X₀.keeps st) (T.keeps st)
    (by rw [Heap.size_push]; exact Nat.lt_succ_self _) (fun p hp => Heap.lt_size (N p hp).1) (by simp [Heap.size_push])) (fun fl s' hl => lv _ _ hl) fun _ _ y => y
  rcases List.mem_cons.mp hp with rfl | hp
  · refine ⟨hoC, Nat.succ_ne_self _, ?_⟩
    cases q : (hideAll ((s.heap.push (tupOf vs)).push (dictOf [] 0)) (((((s.heap.push (tupOf vs)).objs.size, dictOf [] 0) :: (s.heap.objs.size, tupOf vs) :: news)).map (·.1))).get? (((s.heap.push (tupOf vs)).push (dictOf [] 0)).objs.size + 1) with
    | none => rfl
    | some o => exact absurd (Heap.lt_size (of_hideAll _ q)) (Nat.not_lt.mpr (Nat.le_succ _))
  · exact ⟨hk₁ _ _ (N2 p hp).1, Nat.ne_of_lt (Heap.lt_size (N2 p hp).1), hideAll_none _ (List.mem_map_of_mem hp)⟩
end
end Mine
end
/-! part Skw -/
section
theorem Mine.startSkw : True := by
  w_top off
  exact trivial
open PySem PySem.W PyProof.Rows PySem.Calls PySem.Spec
set_option Elab.async false
set_option pp.deepTerms false
set_option pp.maxSteps 3000
set_option maxRecDepth 100000
namespace Mine
abbrev dict0 : Obj := { cls := .type "dict", dict := none, data := .dict #[] 0, slots := #[] }
section
variable {prog : Program} {w : World} {A : Around} {E : Value → Shared → Prop} {s : Shared}
theorem dict_inst {dk : Addr} {Q : Bool → Shared → Prop} (hd : s.heap.get? dk = some dict0) (hq : Q true s) : wpAny (model prog w) A (isInstance (.ref dk) (.type "dict")) Q E s :=
  wpAny_isInstance (T := "dict") ⟨_, hd, rfl⟩ (by rw [isSubtype_type]; kernel_rfl) hq
/-- an empty dict laid into a new one -/
theorem merge0 {d dk : Addr} {Q : Unit → Shared → Prop} (hd : s.heap.get? d = some dict0) (hk : s.heap.get? dk = some dict0) (lo : (dk == sysModules) = false) (hq : Q () s) : wpAny (model prog w) A (mergeMapping d (.ref dk) true) Q E s := by
  unfold mergeMapping
  refine wpAny_bind (dict_inst hk ?_)
  refine KFB.if_so rfl ?_
  refine wpAny_bind (wpAny_specialOf (T := "dict") ⟨_, hk, rfl⟩ PySem.F.slot_dict_iter.lookup ?_)
  rw [show (some (Value.builtin "dict.__iter__") == some (Value.builtin "dict.__iter__")) = true from beq_self_eq_true _]
  refine wpAny_bind (wpAny_pure ?_)
  dsimp only
  refine KFB.if_not lo ?_
  refine wpAny_bind (wpAny_dictEntries hd rfl ?_)
  refine KFB.if_so rfl ?_
  refine wpAny_bind (wpAny_dictEntries hk rfl ?_)
  rw [show (#[] : Array DictEntry) = ([] : List DictEntry).toArray from rfl]
  simp only [List.forIn_toArray, List.forIn_nil]
  refine wpAny_bind (wpAny_pure ?_)
  refine wpAny_bind (wpAny_dictEntries hk rfl ?_)
  refine wpAny_bind (wpAny_dictEpoch hk rfl ?_)
  rw [show List.range (#[] : Array DictEntry).size = [] from rfl, List.forIn_nil]
  exact wpAny_bind (wpAny_pure (wpAny_pure hq))
theorem keys0 {f : Value} {d : Addr} {Q : List (Str × Value) → Shared → Prop} (hd : s.heap.get? d = some dict0) (hq : Q [] s) : wpAny (model prog w) A (keywordsIn f d) Q E s := by
  unfold keywordsIn
  refine wpAny_bind (wpAny_dictEntries hd rfl ?_)
  rw [show (#[] : Array DictEntry) = ([] : List DictEntry).toArray from rfl]
  simp only [List.forIn_toArray, List.forIn_nil]
  exact wpAny_bind (wpAny_pure (wpAny_pure hq))
/-- f(*args, **kwargs), no keywords in kwargs -/
theorem evalArgs_sk {f : Value} {x y : Sem Value} {Q : Args → Shared → Prop}
    (h : wpAny (model prog w) A x (fun v s₁ => wpAny (model prog w) A y (fun kv s₂ => ∃ dk, kv = .ref dk ∧ (dk == sysModules) = false ∧ s₂.heap.get? dk = some dict0 ∧ s₂.heap.get? s₁.heap.objs.size = some dict0 ∧
      StarOf (model prog w) A E v (fun vs s₃ => s₃.heap.get? s₁.heap.objs.size = some dict0 ∧ Q ⟨vs, []⟩ s₃) s₂) E { s₁ with heap := s₁.heap.push dict0 }) E s) :
    wpAny (model prog w) A (evalArgs f true [(true, x)] [(none, y)]) Q E s := by
  unfold evalArgs
  refine wpAny_bind (wpAny_mono h (fun v s₁ h₁ => wpAny_bind (wpAny_pure ?_)) fun _ _ e => e)
  refine wpAny_holding ?_
  refine KFB.if_not (by rfl) ?_
  delta mergedKeywords
  refine wpAny_bind ?_
  refine wpAny_bind (wpAny_alloc ?_)
  refine wpAny_bind (wpAny_holding ?_)
  refine wpAny_bind ?_
  rw [List.forIn_cons]
  refine wpAny_bind (wpAny_bind (KFB.if_so rfl (wpAny_pure ?_)))
  refine wpAny_bind (wpAny_mono h₁ (fun kv s₂ h₂ => ?_) fun _ _ e => e)
  obtain ⟨dk, rfl, lo, hdk, hd, hst⟩ := h₂
  refine wpAny_bind (wpAny_onRaise (wpAny_holding (wpAny_tryCatch (wpAny_onRaise (merge0 hd hdk lo ?_)))))
  refine wpAny_pure ?_
  dsimp only
  rw [List.forIn_nil]
  refine wpAny_pure ?_
  refine KFB.if_so rfl ?_
  refine wpAny_pure ?_
  refine wpAny_pure ?_
  unfold StarOf at hst
  refine wpAny_bind (wpAny_bind (wpAny_mono hst (fun b s₃ hb => ?_) fun _ _ e => e))
  obtain ⟨rfl, hcol⟩ := hb
  refine KFB.if_not rfl (wpAny_holding (wpAny_mono hcol (fun vs s₄ h₄ => ?_) fun _ _ e => e))
  exact wpAny_bind (wpAny_holding (keys0 h₄.1 (wpAny_pure h₄.2)))
theorem callStarKw {M : Model} {A : Around} {E : Value → Shared → Prop} {s : Shared} {f : Value} {first : List Value} {pos : Pos} {Q : Value → Shared → Prop} {P : Heap → Prop} {args : List (Bool × Sem Value)} {kws : List (Option Str × Sem Value)} (hst : args.any (·.1) = true)
    (hk : ∀ h, P h → ∃ k, (k = Keeper.frame ∨ k = Keeper.machine ∨ k = Keeper.boundFrame) ∧ Looks M h (keeperOf f) k)
    (h : wpAny M A (evalArgs f true args kws) (fun a s₁ => P s₁.heap ∧ wpAny M A (call f (first ++ a.pos) a.kw) Q E s₁) E s) : wpAny M A (callWith pos f first args kws) Q E s := by
  unfold callWith
  refine wpAny_bind (wpAny_holding (wpAny_mono h (fun a s₁ h₁ => wpAny_bind (wpAny_standAt ?_)) fun _ _ x => x))
  obtain ⟨k, hk', L⟩ := hk _ h₁.1
  simp only [hst, Bool.true_or]
  refine wpAny_bind (L.here ?_)
  have tail : ∀ {t : Sem Value}, wpAny M A t Q E s₁ → wpAny M A (t >>= fun r => holding [r] point >>= fun _ => pure r) Q E s₁ :=
    fun ht => wpAny_bind (wpAny_mono ht (fun r s₂ hr => wpAny_bind (wpAny_holding (wpAny_point (wpAny_pure hr)))) fun _ _ x => x)
  have marked (mk : Value) : wpAny M A (callMarked mk f (first ++ a.pos) a.kw) Q E s₁ := by unfold callMarked; exact Calls.wpAny_keep h₁.2
  rcases hk' with rfl | rfl | rfl <;> dsimp only <;> first | exact tail (marked _) | exact tail (wpAny_operating h₁.2)
/-- the method call o.name(*args, **kwargs) where the activation is known -/
theorem at_starkw {M : Model} {A : Around} {c : Code} {E : Value → Shared → Prop} {s : Shared} {env : Env} {o ae ke : Expr} {name : Str} {apos pos p1 p2 : Pos} {Q : Value → Shared → Prop}
    (h : PySem.wpAt M A c (attributeBase o name env (eval o env)) (fun ov s₁ => wpAny M A (getAttr ov name true) (fun f s₂ => wpAny M A (callWith pos f [] [(true, do let v ← eval ae env; standAt pos; pure v)] [(none, do let v ← eval ke env; standAt pos; pure v)]) Q E s₂) E s₁) E s)
    (he : eval (.Call (.Attribute o name apos) [.Starred ae p1] [⟨none, ke, p2⟩] pos) env = (do
      let ov ← attributeBase o name env (eval o env)
      standAt apos.atName
      let x ← holding [ov] (do pure (← getAttr ov name true, ([] : List Value)))
      let cp ← (pure pos : Sem Pos)
      callWith cp x.1 x.2 [(true, do let v ← eval ae env; standAt pos; pure v)] [(none, do let v ← eval ke env; standAt pos; pure v)])) :
    PySem.wpAt M A c (eval (.Call (.Attribute o name apos) [.Starred ae p1] [⟨none, ke, p2⟩] pos) env) Q E s := by
  rw [he]
  refine PySem.wpAt_bind (PySem.wpAt_mono h (fun ov s₁ h₁ => PySem.wpAt_of_wpAny (wpAny_bind (wpAny_standAt (wpAny_bind (wpAny_holding (wpAny_bind (wpAny_mono h₁ (fun f s₂ h₂ => wpAny_pure (wpAny_bind (wpAny_pure h₂))) fun _ _ x => x))))))) fun _ _ x => x)
end
end Mine
end
/-! part Sga -/
section
theorem Mine.startSga : True := by
  w_top off
  exact trivial
open PySem PySem.W PyProof.Rows PySem.Calls PySem.Spec
set_option Elab.async false
set_option maxRecDepth 100000
namespace Mine
section
variable {prog : Program} {w : World} {A : Around} {E : Value → Shared → Prop} {K : Frag} {h₀ : Heap} {L : Addr} {m : Str → Option Value} {news : List (Addr × Obj)}
theorem super_getattr {h : Heap} {g : Array GenState} {d : Drawn} {t : Nat} {os : OsState} {so D x C f : Addr} {of : Obj} {l₀ l : List Value} {name : Str} {Q : Value → Shared → Prop}
    (hso : h.get? so = some { cls := .type "super", dict := none, data := .fields #[.ref D, .ref x, .ref C], slots := #[] }) (hno : Looks (model prog w) h (opaqueClassAbove (.ref C)) none)
    (hC : Looks (model prog w) h (mroOf (.ref C)) l₀) (hl : (l₀.dropWhile (· != .ref D)).drop 1 = l) (X : K.In h)
    (hf : alongIn K name l = some (some (.ref f))) (hfo : h.get? f = some of) (hfc : of.cls = .type "function") (hxC : x ≠ C) (hn : (name == ("__class__" : Str)) = false)
    (hq : Q (.ref h.objs.size) ⟨h.push { cls := .type "method", data := .fields #[.ref f, .ref x] }, g, d, t + 1, os⟩) :
    wpAny (model prog w) A (getAttr (.ref so) name true) Q E ⟨h, g, d, t, os⟩ := by
  have hlk := F.ks_slot_super_ga.lookup
  have hT : ∀ t', (⟨h, g, d, t', os⟩ : Shared).TypeIs (.ref so) "super" := fun _ => ⟨_, hso, rfl⟩
  unfold getAttr getAttrBy
  refine wpAny_bind (wpAny_mkText (wpAny_holding (wpAny_bind (wpAny_typeOf (hT _) (wpAny_bind (wpAny_of_eq hlk ?_))))))
  show wpAny _ _ (getAttrByItsOwn (.ref so) (.str name t) (.type "super") (.builtin "super.__getattribute__") true true) _ _ _
  unfold getAttrByItsOwn hookBefore callGetattribute boundAndCalled
  refine wpAny_bind (wpAny_of_eq (show (if onTheHeap (.type "super") then typeLookup (.type "super") "__getattr__" else pure none) = pure none from rfl) ?_)
  refine wpAny_bind (wpAny_attempt (wpAny_holding ?_))
  show wpAny _ _ (bindSpecial (.builtin "super.__getattribute__") (.ref so) >>= _) _ _ _
  refine wpAny_bind (wpAny_of_eq (F.ks_slot_super_ga.bind _) ?_)
  refine wpAny_mono (Q := fun v s' => v = .ref h.objs.size ∧ s' = ⟨h.push { cls := .type "method", data := .fields #[.ref f, .ref x] }, g, d, t + 1, os⟩) (E := fun _ _ => False)
    (wpAny_call_entry F.ks_slot_super_ga (hT _) F.ks_entry_super_ga (ks_wpAny_super_ga hso hno hC hl X hf hfo hfc hxC hn ⟨_, rfl, rfl, rfl⟩) (F.ks_gaArgs_super _ _)) (fun v s' hv => ?_) fun _ _ z => z.elim
  obtain ⟨rfl, rfl⟩ := hv
  exact wpAny_pure hq
theorem supA {s : Shared} {x C D so f2 : Addr} {ox : Obj} {odx : Option Obj} {name : Str} {Q : Value → Shared → Prop} (F : Fr h₀ L s.heap m) (X₀ : K.In h₀) (N : News h₀ L s.heap news) (hso : (so, ks_superObj D x C) ∈ news) (I : InstAt s.heap x ox C odx) (ho : nsIn K cStatics "thirdparty.any" = some none)
    (hm : ks_superIn K C D name = some (some (.ref f2))) (ht : typeIn K (.ref f2) = some (.type "function")) (hn : (name == ("__class__" : Str)) = false)
    (h : ∀ q h', Fr h₀ L h' m → News h₀ L h' ((q, methodObj (.ref f2) (.ref x)) :: news) → (∀ p ∈ news, p.1 < q) → Q (.ref q) { s with heap := h', toks := s.toks + 1 }) : wpAny (model prog w) A (getAttr (.ref so) name true) Q E s := by
  have X : K.In s.heap := X₀.keeps F.keep
  obtain ⟨hh, g, d, t, os⟩ := s
  cases hc : clsIn K C with
  | none => unfold ks_superIn at hm; rw [hc] at hm; cases hm
  | some cd =>
    unfold ks_superIn at hm
    rw [hc] at hm
    obtain ⟨of, hof, hofc⟩ : ∃ of, hh.get? f2 = some of ∧ of.cls = .type "function" := by
      have ht' : (K.lookup f2).map (·.cls) = some (.type "function") := ht
      cases z : K.lookup f2 with
      | none => rw [z] at ht'; cases ht'
      | some of => rw [z] at ht'; exact ⟨of, X _ _ z, Option.some.inj ht'⟩
    refine super_getattr (N _ hso).1 (looks_opaque X ho) (l₀ := cd.mro) ?_ rfl X hm hof hofc (ks_ne X I hc) hn ?_
    · exact fun A Q E s k q => wpAny_bind ((looks_clsIn X hc) A _ E s k (wpAny_pure q))
    · obtain ⟨F', N', l'⟩ := ks_newsPush (s := ⟨hh, g, d, t, os⟩) (o := methodObj (.ref f2) (.ref x)) F N rfl (Heap.get?_push_at rfl rfl) (fun b o e => Heap.get?_push_of_some _ e)
      exact h _ _ F' N' l'
/-- super() where the def has cells of its own besides __class__ -/
theorem node_C {s : Shared} {mg mb : Str → Option Value} {p : Program} {loose : List Str} {mean : ExcName → Option Value} {x C D f cc cda : Addr} {ox : Obj} {odx : Option Obj} {body : List Stmt} {q : Str} {scope : Scope} {cells : List (Str × Addr)} {p0 p1 : Pos} {attr : Str} {whole : Sem Value} {fd : FuncData} {ar : Arg} {vs : Array Value} {file : Str} {tf : Tok} {oc ccl cl : Value} {od cdd cld : Option Addr} {osl ccs csl : Array (Option Value)} {cdD : ClassData} {Q : Value → Shared → Prop}
    (F : Fr h₀ L s.heap m) (X₀ : K.In h₀) (N : News h₀ L s.heap news) (T : Top p loose mean mg mb h₀)
    (hf : K.lookup f = some ⟨oc, od, .func fd, osl⟩) (hp : (fd.params.posonlyargs ++ fd.params.args).head? = some ar) (hv : m ar.arg = some (.ref x)) (I : InstAt s.heap x ox C odx)
    (hcode : K.lookup cda = some ⟨ccl, cdd, .fields vs, ccs⟩) (hvs : vs[2]? = some (.str file tf)) (hfile : ((prog.main.file : Str) == file) = true)
    (hcl : cells.lookup ("__class__" : Str) = some cc) (hcell : K.lookup cc = some ⟨cl, cld, .cell (some (.ref D)), csl⟩) (hD : clsIn K D = some cdD) (hsub : mroIn K C (.ref D) = some true) (hsuper : nsIn K mainGlobals "super" = some none)
    (hat : (attr == ("__class__" : Str)) = false) (hks : scope.names.lookup ("super" : Str) = some .globalImplicit) (hkc : scope.names.lookup ("__class__" : Str) = some .free) (hka : scope.names.lookup ar.arg = some .local) (hk : scope.kind = .function)
    (htop : (prog.main.scope.names.lookup ("super" : Str)).isSome = false) (hboot : bootBuiltins "super" = some (.type "super"))
    (h : ∀ so h', Fr h₀ L h' m → News h₀ L h' ((so, ks_superObj D x C) :: news) → (∀ p ∈ news, p.1 < so) → Q (.ref so) { s with heap := h' }) :
    PySem.wpAt (model prog w) A (.func body (envX q scope L f (.ref cda) cells)) (attributeBase (.Call (.Name "super" p0) [] [] p1) attr (envX q scope L f (.ref cda) cells) whole) Q E s := by
  have X : K.In s.heap := X₀.keeps F.keep
  obtain ⟨hh, g, d, t, os⟩ := s
  obtain ⟨oD, hD1, hD2⟩ : ∃ oD, hh.get? D = some oD ∧ oD.data = .cls cdD := by
    unfold clsIn at hD
    split at hD
    · rename_i c d cd' sl ho
      cases hD
      exact ⟨_, X _ _ ho, rfl⟩
    · cases hD
  refine ks_wpAt_super_base (env := envX q scope L f (.ref cda) cells) hks hkc hat rfl (X _ _ hf) rfl hp rfl (X _ _ hcode) rfl hvs hfile htop ?_
  refine ks_loadName_global hk hks (loadGlobal_builtin (env := envX q scope L f (.ref cda) cells) (T.g.keeps F.keep) (mg_none_of X₀ T.g hsuper) (T.b.keeps F.keep) ((T.builtins _ (by decide +kernel)).trans hboot) ⟨rfl, ?_⟩)
  refine wpAny_loadName_free hk hkc hcl ⟨_, X _ _ hcell, rfl⟩ ?_
  refine wpAny_loadName_local hk hka F.ns hv ?_
  refine ks_wpAny_isType_cls hD1 hD2 ⟨rfl, ?_⟩
  refine ks_wpAny_call_super hD1 hD2 I.at_ I.cls (fun c e => ?_) (looks_mroIn X hsub) (fun h' e k => ?_)
  · have := I.no
    unfold notCls at this
    rw [e] at this
    exact Bool.noConfusion this
  · obtain ⟨F', N', l'⟩ := ks_newsPush (s := ⟨hh, g, d, t, os⟩) F N rfl e k
    exact h _ _ F' N' l'
end
end Mine
end
/-! part Xga -/
section
theorem Mine.startXga : True := by
  w_top off
  exact trivial
local macro_rules | `(tactic| walk_at "pad0") => `(tactic| skip)
open PySem PySem.W PyProof.Rows PySem.Calls PySem.Spec
set_option Elab.async false
set_option pp.deepTerms false
set_option pp.maxSteps 3000
set_option maxRecDepth 100000
namespace Mine
theorem wpAny_up {α : Type} {M : Model} {A A' : Around} {t : Sem α} {Q : α → Shared → Prop} {E : Value → Shared → Prop} {s : Shared} (h : wpAny M A' t Q E s) (hh : A.handled = A'.handled) (hd : A.depth ≤ A'.depth) (hu : A.units ≤ A'.units)
    (hf : ∀ l, A'.frames = some l → A.frames = some l) (hg : ∀ l, A'.guards = some l → A.guards = some l) : wpAny M A t Q E s := fun Γ p hΓ =>
  h Γ p ⟨hΓ.1.trans hh, Nat.le_trans hΓ.2.1 hd, fun l e => hΓ.2.2.1 l (hf l e), fun l e => hΓ.2.2.2.1 l (hg l e), Nat.le_trans hΓ.2.2.2.2 hu⟩
theorem mem_old {h₀ h : Heap} {news : List (Addr × Obj)} (D : X.Mem h₀ h [] news) : ∀ b o, h₀.get? b = some o → h.get? b = some o := fun b o e => D.keep b o e (by rw [show X.away [] b = true from rfl, Bool.or_true])
theorem mem_at {h₀ h : Heap} {q : Addr} {o : Obj} {news : List (Addr × Obj)} (D : X.Mem h₀ h [] news) (hm : (q, o) ∈ news) : h.get? q = some o ∧ h₀.get? q = none := D.nw _ hm
abbrev A9 : Around := ⟨none, 900, none, none, 9000⟩
theorem up9 {α : Type} {M : Model} {A : Around} {t : Sem α} {Q : α → Shared → Prop} {E : Value → Shared → Prop} {s : Shared} (hh : A.handled = none) (hd : A.depth ≤ 900) (hu : A.units ≤ 9000) (h : wpAny M A9 t Q E s) : wpAny M A t Q E s :=
  wpAny_up h hh hd hu (fun _ e => nomatch e) (fun _ e => nomatch e)
def Made (s : Shared) (P : Obj → Prop) (v : Value) (s' : Shared) : Prop := ∃ q o h' tk, v = .ref q ∧ s' = { s with heap := h', toks := tk } ∧ (∀ b o, s.heap.get? b = some o → h'.get? b = some o) ∧ s.heap.get? q = none ∧ h'.get? q = some o ∧ P o
local macro_rules | `(tactic| x_close) => `(tactic| exact ⟨_, _, _, _, rfl, rfl, mem_old (by assumption), (mem_at (by assumption) (.head _)).2, (mem_at (by assumption) (.head _)).1, rfl⟩)
theorem x_update {w : World} {E : Value → Shared → Prop} {s : Shared} {x Dd : Addr} {es : Array DictEntry} {ep : Nat} {t : Tok} (X : (K0 w.params).In s.heap) (hx : s.heap.get? x = some { cls := .ref 282, dict := some Dd, data := .dict es ep, slots := #[] }) (hd : s.heap.get? Dd = some { cls := .type "dict", dict := none, data := .dict #[] 0, slots := #[] }) :
    wpAny (model PySem.Challenge.rw_bl0007_01.row.prog w) A9 (call (.builtin "dict.__getattribute__") [.ref x, .str (Str.ofString "update") t]) (Made s fun o => o = { cls := .type "method", dict := none, data := .fields #[.ref 142, .ref x], slots := #[] }) E s := by
  unfold call Made
  x_run
end Mine
end
/-! part Genp -/
section
theorem Mine.startGenp : True := by
  w_top off
  exact trivial
open PySem PySem.W PyProof.Rows PySem.Calls PySem.Spec
open Sem (wp)
set_option Elab.async false
set_option maxRecDepth 100000
namespace Mine
/-! a generator expression over pairs; what it hands out is told with the heap -/
structure WalksH (prog : Program) (w : World) (A : Around) (I : Addr) (fp wr : List Addr) (G : Array GenState → Array GenState → Prop) (n : Nat) (P : Nat → Value → Heap → List Addr → Prop) (St : Nat → Shared → Prop) : Prop where
  frame : ∀ i (s : Shared) h' tk, St i s → (∀ b ∈ fp, ∀ o, s.heap.get? b = some o → h'.get? b = some o) → St i { s with heap := h', toks := tk }
  item : ∀ i (s : Shared) (Q : Option Value → Shared → Prop) (E : Value → Shared → Prop), i < n → St i s →
    (∀ v s' la, P i v s'.heap la → (∀ b ∈ la, s.heap.get? b = none) → St (i + 1) s' → Moved wr G s s' → Q (some v) s') → wpAny (model prog w) A (pyNext (.ref I)) Q E s
  done : ∀ (s : Shared) (Q : Option Value → Shared → Prop) (E : Value → Shared → Prop), St n s → (∀ s', Moved wr G s s' → Q none s') → wpAny (model prog w) A (pyNext (.ref I)) Q E s
  self : ∀ i (s : Shared) (Q : Value → Shared → Prop) (E : Value → Shared → Prop), St i s → Q (.ref I) s → wpAny (model prog w) A (pyIter (.ref I)) Q E s
theorem WalksH.up {prog : Program} {w : World} {A B : Around} {I : Addr} {fp wr : List Addr} {G : Array GenState → Array GenState → Prop} {n : Nat} {P : Nat → Value → Heap → List Addr → Prop} {St : Nat → Shared → Prop}
    (W : WalksH prog w B I fp wr G n P St) (hh : A.handled = B.handled) (hd : A.depth ≤ B.depth) (hu : A.units ≤ B.units) (hf : B.frames = none) (hg : B.guards = none) : WalksH prog w A I fp wr G n P St where
  frame := W.frame
  item := fun i s Q E hi st hQ => wpAny_up (W.item i s Q E hi st hQ) hh hd hu (fun _ e => by rw [hf] at e; cases e) (fun _ e => by rw [hg] at e; cases e)
  done := fun s Q E st hQ => wpAny_up (W.done s Q E st hQ) hh hd hu (fun _ e => by rw [hf] at e; cases e) (fun _ e => by rw [hg] at e; cases e)
  self := fun i s Q E st hQ => wpAny_up (W.self i s Q E st hQ) hh hd hu (fun _ e => by rw [hf] at e; cases e) (fun _ e => by rw [hg] at e; cases e)
theorem WalksH.of_in1 {prog : Program} {w : World} {A : Around} {I : Addr} {fp wr : List Addr} {G : Array GenState → Array GenState → Prop} {n : Nat} {P : Nat → Value → Heap → List Addr → Prop} {St : Nat → Shared → Prop}
    (W : WalksH prog w A.in1 I fp wr G n P St) : WalksH prog w A I fp wr G n P St where
  frame := W.frame
  item := fun i s Q E hi st hQ => wpAny_of_in1 (W.item i s Q E hi st hQ)
  done := fun s Q E st hQ => wpAny_of_in1 (W.done s Q E st hQ)
  self := fun i s Q E st hQ => wpAny_of_in1 (W.self i s Q E st hQ)
theorem WalksH.of_in4 {prog : Program} {w : World} {A : Around} {I : Addr} {fp wr : List Addr} {G : Array GenState → Array GenState → Prop} {n : Nat} {P : Nat → Value → Heap → List Addr → Prop} {St : Nat → Shared → Prop}
    (W : WalksH prog w A.in4 I fp wr G n P St) : WalksH prog w A I fp wr G n P St :=
  WalksH.of_in1 (WalksH.of_in1 (A := A.in1) (WalksH.of_in1 (A := A.in1.in1) (WalksH.of_in1 (A := A.in1.in1.in1) W)))
structure QuietH (prog : Program) (w : World) (cenv : Env) (xa xb : Str) (elt : Expr) (fp wr : List Addr) (Pt : Nat → Array Value → Prop) (F : Nat → Value → Heap → List Addr → Prop) (href : Heap) (D U : Nat) : Prop where
  elt : ∀ (A' : Around) E' i va vb (s₂ : Shared) m₂, A'.handled = none → A'.depth ≤ D → A'.units ≤ U → Pt i #[va, vb] → s₂.heap.Ns cenv.locals m₂ → m₂ xa = some va → m₂ xb = some vb → (∀ b ∈ fp, b ∉ wr → ∀ o, href.get? b = some o → s₂.heap.get? b = some o) → (∀ b ∈ wr, ∃ o, s₂.heap.get? b = some o) →
    wpAny (model prog w) A' (eval elt cenv) (fun y s₃ => (∃ la, F i y s₃.heap la ∧ ∀ b ∈ la, s₂.heap.get? b = none) ∧ Keeps s₂ s₃) E' s₂
def protoH (C : Addr) (fp wr : List Addr) (n₀ : Nat) (F : Nat → Value → Heap → List Addr → Prop) : Protocol := fun m s₀ v s kap =>
  ((∃ i la, i + m + 1 = n₀ ∧ F i v s.heap la ∧ ∀ b ∈ la, s₀.heap.get? b = none) ∧ ∀ b ∈ C :: wr, ∃ o, s.heap.get? b = some o) ∧ GenSince C wr s₀ s ∧ ∀ s'' : Shared, (∀ b ∈ C :: fp, ∀ o, s.heap.get? b = some o → s''.heap.get? b = some o) → kap (.send .none) s''
section
variable {prog : Program} {w : World} {A : Around}
theorem seg_loopH {elt iter : Expr} {xa xb : Str} {pa pb pt : Pos} {kt : Nat} {scope : Scope} {pos : Pos} {I : Addr} {fp wr : List Addr} {n₀ : Nat} {Pt : Nat → Array Value → Prop} {St₀ : Nat → Heap → Prop} {Mid : Nat → Addr → Heap → Prop} {cenv : Env}
    (hh : A.handled = none) (W₀ : ∀ A' : Around, A'.handled = none → WalksU prog w A' I fp wr n₀ Pt St₀ Mid) (hso : ∀ i h, St₀ i h → ∀ b ∈ wr, ∃ o, h.get? b = some o) (hsz : ∀ i vals, Pt i vals → ∃ va vb, vals = #[va, vb]) (hab : xa ≠ xb) (F : Nat → Value → Heap → List Addr → Prop) (href : Heap)
    (hxa : cenv.kindOf xa = some .local) (hxb : cenv.kindOf xb = some .local) (hp : (cenv.scope.kind == .class || (cenv.scope.kind == .module && cenv.locals != cenv.globals)) = false)
    (hco : cenv.scope.isCoroutine = false) (hCf : cenv.locals ∉ fp) (hq : QuietH prog w cenv xa xb elt fp wr Pt F href (A.depth + 1) (A.units + 3)) :
    ∀ (k i : Nat) (s₀ s : Shared) (m : Str → Option Value), n₀ - i = k → i ≤ n₀ → St₀ i s.heap → s.heap.Ns cenv.locals m → GenSince cenv.locals wr s₀ s →
      (∀ b ∈ fp, b ∉ wr → ∀ o, href.get? b = some o → s.heap.get? b = some o) →
      Seg (model prog w) A (fun n s₀ r s₁ => r = .ok .next ∧ (n = 0 ∧ GenSince cenv.locals wr s₀ s₁)) (protoH cenv.locals fp wr n₀ F) k s₀
        (.compLoop (.GeneratorExp elt [⟨.Tuple [.Name xa pa, .Name xb pb] kt pt, iter, [], 0⟩] scope pos) 0 (.ref I) .none cenv)
        ((model prog w).den (.compLoop (.GeneratorExp elt [⟨.Tuple [.Name xa pa, .Name xb pb] kt pt, iter, [], 0⟩] scope pos) 0 (.ref I) .none cenv)) [] s := by
  have hh' : (A.over (.compLoop (.GeneratorExp elt [⟨.Tuple [.Name xa pa, .Name xb pb] kt pt, iter, [], 0⟩] scope pos) 0 (.ref I) .none cenv) []).handled = none := hh
  have hdep' : (A.over (.compLoop (.GeneratorExp elt [⟨.Tuple [.Name xa pa, .Name xb pb] kt pt, iter, [], 0⟩] scope pos) 0 (.ref I) .none cenv) []).depth ≤ A.depth + 1 := Nat.le_of_eq rfl
  have huni' : (A.over (.compLoop (.GeneratorExp elt [⟨.Tuple [.Name xa pa, .Name xb pb] kt pt, iter, [], 0⟩] scope pos) 0 (.ref I) .none cenv) []).units ≤ A.units + 3 := Nat.le_of_eq rfl
  have hCw : cenv.locals ∉ wr := fun h => hCf ((W₀ A hh).sub _ h)
  intro k
  induction k with
  | zero =>
    intro i s₀ s m hk hi hst hn hsince hkp
    have hin : i = n₀ := by omega
    subst hin
    show Seg _ A _ _ _ s₀ _ ((compTurn (.GeneratorExp elt [⟨.Tuple [.Name xa pa, .Name xb pb] kt pt, iter, [], 0⟩] scope pos) 0 (.ref I) .none cenv).onRaise (leaving cenv)) [] s
    rw [compTurn_gen, Sem.onRaise_eq_wrap]
    refine seg_bind_wrap (wpAny_standAt ?_)
    refine seg_bind_wrap ((W₀ _ hh').done s _ _ hst fun h' tk hk' => ?_)
    exact seg_end (.ok .next) ⟨rfl, rfl, hsince.step fun b o _ hw e => hk' b o hw e⟩
  | succ k ih =>
    intro i s₀ s m hk hi hst hn hsince hkp
    have hlt : i < n₀ := by omega
    show Seg _ A _ _ _ s₀ _ ((compTurn (.GeneratorExp elt [⟨.Tuple [.Name xa pa, .Name xb pb] kt pt, iter, [], 0⟩] scope pos) 0 (.ref I) .none cenv).onRaise (leaving cenv)) [] s
    rw [compTurn_gen, Sem.onRaise_eq_wrap]
    refine seg_bind_wrap (wpAny_standAt ?_)
    refine seg_bind_wrap ((W₀ _ hh').item i s _ _ hlt hst fun T vals h₁ tk₁ hPv hT₁ hmid hk₁ => ?_)
    obtain ⟨va, vb, rfl⟩ := hsz i vals hPv
    refine seg_bind_wrap ((W₀ _ hh').go _ _ _ i T _ _ _ hmid fun h₁' hst₁ hk₁' => ?_)
    have hT₁' : h₁'.IsTuple T #[va, vb] := let ⟨o, e, r⟩ := hT₁; ⟨o, hk₁' _ o ((W₀ _ hh').apart i T _ hmid) e, r⟩
    refine seg_bind_wrap (kcp_assign hh' hT₁' hxa hxb hp (hn.at' fun o e => hk₁' _ o hCw (hk₁ _ o hCw e)) fun h₂ tk₂ hn₂ up => ?_)
    have up₂ : ∀ b o, b ≠ cenv.locals → b ∉ wr → s.heap.get? b = some o → h₂.get? b = some o := fun b o hbC hbw e => up b o hbC (hk₁' b o hbw (hk₁ b o hbw e))
    have hst₂ : St₀ (i + 1) h₂ := (W₀ A hh).frame _ _ _ hst₁ fun b hb o e => up b o (fun h => hCf (h ▸ hb)) e
    have hkp₂ : ∀ b ∈ fp, b ∉ wr → ∀ o, href.get? b = some o → h₂.get? b = some o := fun b hb hbw o e => up₂ b o (fun h => hCf (h ▸ hb)) hbw (hkp b hb hbw o e)
    have hsince₂ : GenSince cenv.locals wr s₀ { s with heap := h₂, toks := tk₂ } := hsince.step fun b o hbC hbw e => up₂ b o hbC hbw e
    refine seg_bind_wrap (wpAny_pure ?_)
    simp only [if_true]
    have hy : ∀ v, yieldOut cenv v = yieldValue v := fun v => by simp only [yieldOut, hco, Bool.false_eq_true, if_false]
    simp only [hy]
    rw [Sem.bind_eq_wrap', Sem.bind_eq_wrap', Sem.wrap_wrap, Sem.wrap_wrap]
    refine seg_wrap (wpAny_mono (hq.elt _ _ i va vb _ _ hh' hdep' huni' hPv hn₂ (by simp [hab]) (by simp) hkp₂ (hso _ _ hst₂)) (fun y s₄ h₄ => ?_) fun _ _ e => e)
    obtain ⟨⟨la, hFy, hla⟩, h₄, tk₄, rfl, hk₄⟩ := h₄
    have hla' : ∀ b ∈ la, s₀.heap.get? b = none := fun b hb => by
      have h2 := hla b hb
      dsimp only at h2
      have hC2 : b ≠ cenv.locals := fun e => by
        obtain ⟨o, _, _, e2, _⟩ := hn₂
        rw [← e, h2] at e2; cases e2
      have hw2 : b ∉ wr := fun e => by
        obtain ⟨o, e2⟩ := hso _ _ hst₂ b e
        rw [h2] at e2; cases e2
      cases h0 : s₀.heap.get? b with
      | none => rfl
      | some o =>
        obtain ⟨h7, tk7, e7, k7⟩ := hsince₂
        have e8 := k7 b o hC2 hw2 h0
        have e9 : h7 = h₂ := by
          have := congrArg Shared.heap e7
          exact this.symm
        rw [e9, h2] at e8; cases e8
    refine seg_at (seg_yield rfl rfl rfl ⟨⟨⟨i, la, by omega, hFy, hla'⟩, fun b hb => ?_⟩, hsince₂.step fun b o _ _ e => hk₄ b o e, fun s'' hal => ?_⟩)
    · rcases List.mem_cons.mp hb with rfl | hb
      · obtain ⟨o, _, _, e, _⟩ := hn₂.keeps hk₄
        exact ⟨o, e⟩
      · obtain ⟨o, e⟩ := hso _ _ hst₂ b hb
        exact ⟨o, hk₄ b o e⟩
    refine seg_again rfl (ih (i + 1) s'' s'' _ (by omega) hlt ((W₀ A hh).frame _ _ _ hst₂ fun b hb o e => hal b (List.mem_cons_of_mem _ hb) o (hk₄ b o e))
      ((hn₂.keeps hk₄).at' fun o e => hal _ (List.mem_cons_self ..) o e) (GenSince.refl _ _ _) fun b hb hbw o e => hal b (List.mem_cons_of_mem _ hb) o (hk₄ b o (hkp₂ b hb hbw o e)))

theorem seg_startH {elt iter : Expr} {xa xb : Str} {pa pb pt : Pos} {kt : Nat} {scope : Scope} {pos : Pos} {I : Addr} {fp wr : List Addr} {n₀ : Nat} {Pt : Nat → Array Value → Prop} {St₀ : Nat → Heap → Prop} {Mid : Nat → Addr → Heap → Prop} {cenv : Env}
    (hh : A.handled = none) (W₀ : ∀ A' : Around, A'.handled = none → WalksU prog w A' I fp wr n₀ Pt St₀ Mid) (hso : ∀ i h, St₀ i h → ∀ b ∈ wr, ∃ o, h.get? b = some o) (hsz : ∀ i vals, Pt i vals → ∃ va vb, vals = #[va, vb]) (hab : xa ≠ xb) (F : Nat → Value → Heap → List Addr → Prop) (href : Heap)
    (hxa : cenv.kindOf xa = some .local) (hxb : cenv.kindOf xb = some .local) (hp : (cenv.scope.kind == .class || (cenv.scope.kind == .module && cenv.locals != cenv.globals)) = false)
    (hco : cenv.scope.isCoroutine = false) (hCf : cenv.locals ∉ fp) (hq : QuietH prog w cenv xa xb elt fp wr Pt F href (A.depth + 1) (A.units + 3))
    (s₀ s : Shared) (m : Str → Option Value) (hst : St₀ 0 s.heap) (hn : s.heap.Ns cenv.locals m) (hsince : GenSince cenv.locals wr s₀ s)
    (hkp : ∀ b ∈ fp, b ∉ wr → ∀ o, href.get? b = some o → s.heap.get? b = some o) :
    Seg (model prog w) A (fun n s₀ r s₁ => r = .ok .next ∧ (n = 0 ∧ GenSince cenv.locals wr s₀ s₁)) (protoH cenv.locals fp wr n₀ F) n₀ s₀
      (.compStart (.GeneratorExp elt [⟨.Tuple [.Name xa pa, .Name xb pb] kt pt, iter, [], 0⟩] scope pos) 0 (.ref I) .none cenv)
      ((model prog w).den (.compStart (.GeneratorExp elt [⟨.Tuple [.Name xa pa, .Name xb pb] kt pt, iter, [], 0⟩] scope pos) 0 (.ref I) .none cenv)) [] s := by
  have hh' : (A.over (.compStart (.GeneratorExp elt [⟨.Tuple [.Name xa pa, .Name xb pb] kt pt, iter, [], 0⟩] scope pos) 0 (.ref I) .none cenv) []).handled = none := hh
  have loop := seg_loopH (iter := iter) (pa := pa) (pb := pb) (pt := pt) (kt := kt) (scope := scope) (pos := pos) hh W₀ hso hsz hab F href hxa hxb hp hco hCf hq n₀ 0 s₀ s m (Nat.sub_zero _) (Nat.zero_le _) hst hn hsince hkp
  show Seg _ A _ _ _ s₀ _ ((compStart (.GeneratorExp elt [⟨.Tuple [.Name xa pa, .Name xb pb] kt pt, iter, [], 0⟩] scope pos) 0 (.ref I) .none cenv).onRaise (leaving cenv)) [] s
  unfold compStart
  rw [Sem.onRaise_eq_wrap]
  show Seg _ A _ _ _ s₀ _ ((ask >>= _).wrap _ _ _ _) [] s
  refine seg_bind_wrap (wpAny_askSetting ?_)
  split
  · exact seg_again rfl loop
  · first
      | exact seg_bind_wrap (wpAny_rule (seg_bind_wrap (wpAny_standAt (seg_bind_wrap ((W₀ _ hh').self 0 s _ _ hst (seg_again rfl loop))))))
      | (refine seg_bind_wrap (wpAny_rule ?_); show Seg _ A _ _ _ s₀ _ ((standAt iter.pos >>= _).wrap _ _ _ _) [] s; exact seg_bind_wrap (wpAny_standAt (seg_bind_wrap ((W₀ _ hh').self 0 s _ _ hst (seg_again rfl loop)))))

def GenAtH (prog : Program) (w : World) (A : Around) (a : Addr) (g : Nat) (C : Addr) (fp wr : List Addr) (n₀ : Nat) (F : Nat → Value → Heap → List Addr → Prop) (j : Nat) (s : Shared) : Prop :=
  s.heap.IsGen a g ∧ s.heap.NoLimit ∧ (∀ b ∈ C :: wr, ∃ o, s.heap.get? b = some o) ∧ ∃ gs, s.gens[g]? = some gs ∧ ∀ s'' : Shared, (∀ b ∈ C :: fp, ∀ o, s.heap.get? b = some o → s''.heap.get? b = some o) →
    gs.Goes (model prog w) A.in1 (fun n s₀ r s₁ => r = .ok .next ∧ (n = 0 ∧ GenSince C wr s₀ s₁)) (protoH C fp wr n₀ F) (n₀ - j) (.send .none) s''

theorem WalksH.gen (hh : A.handled = none) (a : Addr) (g : Nat) (C : Addr) (fp wr : List Addr) (n₀ : Nat) (F : Nat → Value → Heap → List Addr → Prop) (haC : a ≠ C) (haf : a ∉ fp) (hsub : ∀ b ∈ wr, b ∈ fp)
    (hroom : A.depth < recursionLimit) (hcs : cStatics ∈ fp) (hcC : cStatics ≠ C) (hcw : cStatics ∉ wr) :
    WalksH prog w A a (a :: C :: fp) (C :: wr) (GenOnlyQ g) n₀ F (GenAtH prog w A a g C fp wr n₀ F) where
  frame := fun j s h' tk st hk =>
    ⟨let ⟨o, nm, qn, ho, r⟩ := st.1; ⟨o, nm, qn, hk a (List.mem_cons_self ..) o ho, r⟩,
     (let ⟨mc, hns, hnn⟩ := st.2.1; ⟨mc, hns.at' fun o e => hk cStatics (List.mem_cons_of_mem _ (List.mem_cons_of_mem _ hcs)) o e, hnn⟩),
     (fun b hb => let ⟨o, e⟩ := st.2.2.1 b hb; ⟨o, hk b (by rcases List.mem_cons.mp hb with rfl | hb; exact .tail _ (.head _); exact .tail _ (.tail _ (hsub b hb))) o e⟩),
     let ⟨gs, hgs, hgo⟩ := st.2.2.2; ⟨gs, hgs, fun s'' hal => hgo s'' fun b hb o e => hal b hb o (hk b (List.mem_cons_of_mem _ hb) o e)⟩⟩
  item := fun j s Q E hj st hQ => by
    obtain ⟨hg, hl, hex, gs, hgs, hgo⟩ := st
    obtain ⟨m, hm⟩ : ∃ m, n₀ - j = m + 1 := ⟨n₀ - j - 1, by omega⟩
    rw [hm] at hgo
    refine wpAny_with_toks (Nat.le_refl s.toks) ?_
    refine wpAny_pyNext_genexpQ (P := fun n s₀ s₁ => n = 0 ∧ GenSince C wr s₀ s₁) hh hl hroom hg hgs (hgo _ fun _ _ _ e => e) (fun v s₁ gs' hb hv => ?_) (fun s₁ hp h' hk => ?_)
    · obtain ⟨⟨⟨i, la, hi, hF, hla⟩, hex'⟩, ⟨h₁, tk₁, rfl, hk₁⟩, hkap⟩ := hv
      have hidx : i = j := by omega
      subst hidx
      have haw : a ∉ wr := fun h => haf (hsub a h)
      intro htk
      refine hQ v _ la hF hla ⟨let ⟨o, nm, qn, ho, r⟩ := hg; ⟨o, nm, qn, hk₁ a o haC haw ho, r⟩, (let ⟨mc, hns, hnn⟩ := hl; ⟨mc, hns.at' fun o e => hk₁ cStatics o hcC hcw e, hnn⟩), hex', gs', setGen_self (gs := .running) (setGen_self hgs), fun s'' hal => ?_⟩
        ⟨fun b o hb e => hk₁ b o (fun h => hb (h ▸ List.mem_cons_self ..)) (fun h => hb (List.mem_cons_of_mem _ h)) e, GenOnlyQ.of ((GenOnly.setGen s g .running).trans (GenOnly.setGen _ g gs')) (setGen_self (gs := .running) (setGen_self hgs)) hb, rfl, rfl, htk⟩
      have e : n₀ - (i + 1) = m := by omega
      rw [e]
      exact hkap s'' hal
    · exact absurd hp.1 (Nat.succ_ne_zero m)
  done := fun s Q E st hQ => by
    obtain ⟨hg, hl, hex, gs, hgs, hgo⟩ := st
    rw [Nat.sub_self] at hgo
    refine wpAny_with_toks (Nat.le_refl s.toks) ?_
    refine wpAny_pyNext_genexpQ (P := fun n s₀ s₁ => n = 0 ∧ GenSince C wr s₀ s₁) hh hl hroom hg hgs (hgo _ fun _ _ _ e => e) (fun v s₁ gs' hb hv => ?_) (fun s₁ hp h' hk => ?_)
    · obtain ⟨_, _, hkap⟩ := hv
      exact False.elim (hkap s₁ fun _ _ _ e => e)
    · obtain ⟨_, h₁, tk₁, rfl, hk₁⟩ := hp
      intro htk
      exact hQ _ ⟨fun b o hb e => hk b o (hk₁ b o (fun h => hb (h ▸ List.mem_cons_self ..)) (fun h => hb (List.mem_cons_of_mem _ h)) e), GenOnlyQ.of ((GenOnly.setGen s g .running).trans (GenOnly.setGen _ g .finished)) (setGen_self (gs := .running) (setGen_self hgs)) rfl, rfl, rfl, htk⟩
  self := fun _ _ _ _ st hQ => wpAny_pyIter_gen st.1 hQ

theorem GenAtH.fresh {elt iter : Expr} {xa xb : Str} {pa pb pt : Pos} {kt : Nat} {scope : Scope} {pos : Pos} {I a : Addr} {g : Nat} {fp wr : List Addr} {n₀ : Nat} {Pt : Nat → Array Value → Prop} {St₀ : Nat → Heap → Prop} {Mid : Nat → Addr → Heap → Prop} {cenv : Env}
    (hh : A.handled = none) (W₀ : ∀ A' : Around, A'.handled = none → WalksU prog w A' I fp wr n₀ Pt St₀ Mid) (hso : ∀ i h, St₀ i h → ∀ b ∈ wr, ∃ o, h.get? b = some o) (hsz : ∀ i vals, Pt i vals → ∃ va vb, vals = #[va, vb]) (hab : xa ≠ xb) (F : Nat → Value → Heap → List Addr → Prop)
    (hxa : cenv.kindOf xa = some .local) (hxb : cenv.kindOf xb = some .local) (hp : (cenv.scope.kind == .class || (cenv.scope.kind == .module && cenv.locals != cenv.globals)) = false)
    (hco : cenv.scope.isCoroutine = false) (hCf : cenv.locals ∉ fp) {s : Shared} {m : Str → Option Value} (hq : QuietH prog w cenv xa xb elt fp wr Pt F s.heap (A.depth + 1) (A.units + 4))
    (hg : s.heap.IsGen a g) (hgs : s.gens[g]? = some (.fresh (.compStart (.GeneratorExp elt [⟨.Tuple [.Name xa pa, .Name xb pb] kt pt, iter, [], 0⟩] scope pos) 0 (.ref I) .none cenv)))
    (hst : St₀ 0 s.heap) (hn : s.heap.Ns cenv.locals m) (hl : s.heap.NoLimit) : GenAtH prog w A a g cenv.locals fp wr n₀ F 0 s :=
  ⟨hg, hl, (fun b hb => by
    rcases List.mem_cons.mp hb with rfl | hb
    · obtain ⟨o, _, _, e, _⟩ := hn
      exact ⟨o, e⟩
    · exact hso _ _ hst b hb), _, hgs, fun s'' hal => ⟨rfl, seg_startH (A := A.in1) hh W₀ hso hsz hab F s.heap hxa hxb hp hco hCf hq s'' s'' m ((W₀ A hh).frame _ _ _ hst fun b hb o e => hal b (List.mem_cons_of_mem _ hb) o e)
    (hn.at' fun o e => hal _ (List.mem_cons_self ..) o e) (GenSince.refl _ _ _) fun b hb _ o e => hal b (List.mem_cons_of_mem _ hb) o e⟩⟩
end
section
variable {prog : Program} {w : World} {A : Around} {E : Value → Shared → Prop} {s : Shared}
theorem GeneratorExp_H {B : Around} (hB : B.handled = none) (hBd : B.depth < recursionLimit) {env : Env} {elt iter : Expr} {xa xb : Str} {pa pb pt : Pos} {kt : Nat} {scope : Scope} {cl : List (Str × Addr)} {pos : Pos} {Q : Value → Shared → Prop}
    (hh : A.handled = none) (hco : scope.isCoroutine = false) (hclos : closureFor scope env = pure cl) (hcell : ∀ y ∈ scope.names, y.2 ≠ .cell) (h0 : scope.names.lookup (".0" : Str) = some NameKind.local)
    (hxa : scope.names.lookup xa = some .local) (hxb : scope.names.lookup xb = some .local) (hab : xa ≠ xb) (hkind : scope.kind = .function) (hroom : A.depth < recursionLimit)
    (h : wpAny (model prog w) A (eval iter env) (fun xv s₁ => wpAny (model prog w) A (pyIter xv) (fun it s₂ => s₂.heap.NoLimit ∧
      wpAny (model prog w) A (genexprCode env pos (env.qual ++ "<genexpr>") scope) (fun code s₃ => wpAny (model prog w) A (builtinsFor env.globals env.builtins) (fun bi s₄ =>
        ∃ I fp wr n₀ Pt St₀ Mid F fp', it = .ref I ∧ (∀ A' : Around, A'.handled = none → WalksU prog w A' I fp wr n₀ Pt St₀ Mid) ∧ (∀ i h, St₀ i h → ∀ b ∈ wr, ∃ o, h.get? b = some o) ∧ (∀ b ∈ fp, b ∈ fp') ∧ cStatics ∈ fp' ∧ (∀ i vals, Pt i vals → ∃ va vb, vals = #[va, vb]) ∧ St₀ 0 s₄.heap ∧ (∀ b ∈ fp', b < s₄.heap.objs.size) ∧ s₄.heap.NoLimit ∧ cStatics ∉ wr ∧
          (∀ href : Heap, (∀ b o, s₄.heap.get? b = some o → href.get? b = some o) →
            QuietH prog w (genEnv scope cl s₄.heap.objs.size code bi env) xa xb elt fp' wr Pt F href (B.depth + 1) (B.units + 4)) ∧
          (∀ a h₅ tk gs, gs.bare = true → s₄.heap.objs.size < a → h₅.objs.size = a + 1 → (∀ b o, s₄.heap.get? b = some o → h₅.get? b = some o) →
            h₅.get? a = some { cls := .type "generator", data := .fields #[.int s₄.gens.size 0, .str "<genexpr>" (s₄.toks + 1), .str (env.qual ++ "<genexpr>") (s₄.toks + 1 + 1)] } →
            WalksH prog w B a (a :: s₄.heap.objs.size :: fp') (s₄.heap.objs.size :: wr) (GenOnlyQ s₄.gens.size) n₀ F (GenAtH prog w B a s₄.gens.size s₄.heap.objs.size fp' wr n₀ F) →
            h₅.Ns s₄.heap.objs.size (fun y => if y = ".0" then some (.ref I) else none) →
            GenAtH prog w B a s₄.gens.size s₄.heap.objs.size fp' wr n₀ F 0 { s₄ with gens := s₄.gens.push gs, toks := tk, heap := h₅ } →
            Q (.ref a) { s₄ with gens := s₄.gens.push gs, toks := tk, heap := h₅ })) E s₃) E s₂) E s₁) E s)
    (hs : ∀ x, genFold iter env x = pure x) :
    wpAny (model prog w) A (eval (.GeneratorExp elt [⟨.Tuple [.Name xa pa, .Name xb pb] kt pt, iter, [], 0⟩] scope pos) env) Q E s := by
  refine wpAny_GeneratorExp_make hco hclos hcell h0 hkind hroom (wpAny_mono h (fun xv s₁ h₁ => wpAny_mono h₁ (fun it s₂ h₂ => ⟨h₂.1, wpAny_mono h₂.2 (fun code s₃ h₃ => wpAny_mono h₃ (fun bi s₄ h₄ => ?_)
    fun _ _ e => e) fun _ _ e => e⟩) fun _ _ e => e) fun _ _ e => e) hs
  obtain ⟨I, fp, wr, n₀, Pt, St₀, Mid, F, fp', rfl, W₀, hso, hff, hcs, hsz2, hst, hfp, hl₄, hcw, hq, hQ⟩ := h₄
  have hclt : cStatics < s₄.heap.objs.size := let ⟨_, hn, _⟩ := hl₄; hn.lt
  intro h' hn' hs'
  have hsz : h'.objs.size = s₄.heap.objs.size + 1 := by rw [hs'.1, Heap.size_push]
  have keep' : ∀ b o, s₄.heap.get? b = some o → h'.get? b = some o := fun b o e => hs'.extBut b o (Nat.ne_of_lt (Heap.lt_size e)) (Heap.get?_push_of_some _ e)
  have hsub : ∀ b ∈ wr, b ∈ fp' := fun b hb => hff b ((W₀ A hh).sub b hb)
  have haC : h'.objs.size ≠ s₄.heap.objs.size := by rw [hsz]; exact Nat.succ_ne_self _
  have haf : h'.objs.size ∉ fp' := fun hm => by have := hfp _ hm; omega
  have keep₅ : ∀ b o, s₄.heap.get? b = some o → (h'.push { cls := .type "generator", data := .fields #[.int s₄.gens.size 0, .str "<genexpr>" (s₄.toks + 1), .str (env.qual ++ "<genexpr>") (s₄.toks + 1 + 1)] }).get? b = some o :=
    fun b o e => Heap.get?_push_of_some _ (keep' b o e)
  refine hQ _ _ _ _ rfl (by omega) (by rw [Heap.size_push]) keep₅ (Heap.get?_push_size _ rfl) (WalksH.gen (A := B) hB _ _ _ _ wr n₀ F haC haf hsub hBd hcs (Nat.ne_of_lt hclt) hcw) (hn'.push _) ?_
  refine GenAtH.fresh (A := B) (cenv := genEnv scope cl s₄.heap.objs.size code bi env) (m := fun y => if y = ".0" then some (.ref I) else none) hB
    (fun A' hA => (W₀ A' hA).mono_fp hff) hso hsz2 hab F hxa hxb (by simp [genEnv, hkind]) hco
    (fun hm => Nat.lt_irrefl _ (hfp _ hm)) (hq _ keep₅) ⟨_, _, _, Heap.get?_push_size _ rfl, rfl, rfl, rfl⟩ (Array.getElem?_push_size ..) ((W₀ A hh).frame _ _ _ hst fun b _ o e => keep₅ b o e) (hn'.push _) (hl₄.keeps keep₅)
end
end Mine
end
/-! part Forp -/
section
theorem Mine.startForp : True := by
  w_top off
  exact trivial
open PySem PySem.W PyProof.Rows PySem.Calls PySem.Spec
set_option Elab.async false
namespace Mine
/-! for a, b in a generator of pairs -/
def PairP (F2 : Nat → Value → Value → Heap → List Addr → Prop) (i : Nat) (v : Value) (h : Heap) (la : List Addr) : Prop := ∃ T va vb, v = .ref T ∧ h.IsTuple T #[va, vb] ∧ F2 i va vb h la
section
variable {prog : Program} {w : World} {A : Around} {E : Value → Shared → Prop} {s : Shared} {env : Env} {h₀ : Heap} {L : Addr} {Q : Flow → Shared → Prop}
def PEnd (h₀ : Heap) (L : Addr) (s : Shared) (Q : Flow → Shared → Prop) (wr : List Addr) (gl : List (Addr × Obj)) (J : (Str → Option Value) → List (Addr × Obj) → Prop) (f : Flow) (s' : Shared) : Prop :=
  match f with
  | .brk => Q .next s'
  | .ret v => Q (.ret v) s'
  | _ => ∃ h tk m news, s' = { s with heap := h, toks := tk } ∧ s.toks ≤ tk ∧ Fr h₀ L h m ∧ News h₀ L h (gl ++ news) ∧ (∀ p ∈ news, p.1 ∉ wr) ∧ J m news
/-- the ledger's part of the generator, read anew -/
def reread (h : Heap) (gl : List (Addr × Obj)) : List (Addr × Obj) := gl.map fun p => (p.1, (h.get? p.1).getD p.2)
theorem reread_fst (h : Heap) (gl : List (Addr × Obj)) : (reread h gl).map (·.1) = gl.map (·.1) := by
  unfold reread; rw [List.map_map]; rfl
theorem news_app {h : Heap} {a b : List (Addr × Obj)} (x : News h₀ L h a) (y : News h₀ L h b) : News h₀ L h (a ++ b) := fun p hp => (List.mem_append.mp hp).elim (x p) (y p)
theorem letGo_gen {elts : List Expr} {k : Nat} {pos : Pos} {a g : Addr} {T : Addr} {Q' : Unit → Shared → Prop} (hg : s.heap.IsGen a g) (h : Q' () s) :
    wpAny (model prog w) A (letOwnedTupleGo (.Tuple elts k pos) (.ref a) (.ref T)) Q' E s := by
  obtain ⟨o, nm, qn, ho, hc, hd⟩ := hg
  unfold letOwnedTupleGo
  refine wpAny_bind (wpAny_load ho ?_)
  rw [hc]
  simp only [hd.1]
  exact wpAny_pure h
theorem for_pairs {xa xb : Str} {pa pb pt : Pos} {kt : Nat} {body : List Stmt} {a : Addr} {fp wr : List Addr} {G : Array GenState → Array GenState → Prop} {n : Nat} {F2 : Nat → Value → Value → Heap → List Addr → Prop} {St : Nat → Shared → Prop} {m₀ : Str → Option Value} {gl₀ news₀ : List (Addr × Obj)}
    (W : WalksH prog w A a fp wr G n (PairP F2) St) (hrf : ∀ x, G x x) (htr : ∀ x y z, G x y → G y z → G x z) (hgen : ∀ i s, St i s → ∃ g, s.heap.IsGen a g) (hex : ∀ i s, St i s → ∀ b ∈ wr, ∃ o, s.heap.get? b = some o)
    (hF2 : ∀ i va vb h h' la, F2 i va vb h la → (∀ b ∈ la, ∀ o, h.get? b = some o → h'.get? b = some o) → F2 i va vb h' la)
    (hh : A.handled = none) (hcov : ∀ b ∈ fp, (∃ o, h₀.get? b = some o) ∨ b ∈ gl₀.map (·.1)) (hwr : ∀ b ∈ wr, b ∈ gl₀.map (·.1))
    (hL : env.locals = L) (hxa : env.kindOf xa = some .local) (hxb : env.kindOf xb = some .local) (hp : (env.scope.kind == .class || (env.scope.kind == .module && env.locals != env.globals)) = false)
    (J : Nat → (Str → Option Value) → List (Addr × Obj) → Prop) (hst : St 0 s) (F : Fr h₀ L s.heap m₀) (N : News h₀ L s.heap (gl₀ ++ news₀)) (hnw : ∀ p ∈ news₀, p.1 ∉ wr) (hJ : J 0 m₀ news₀)
    (turn : ∀ i va vb h tk gs m news gl la, s.toks ≤ tk → i < n → F2 i va vb h la → (∀ b ∈ la, h₀.get? b = none ∧ b ≠ L ∧ b ∉ wr ∧ ∀ p ∈ news, p.1 ≠ b) → J i m news → gl.map (·.1) = gl₀.map (·.1) → G s.gens gs → Fr h₀ L h (fun y => if y = xb then some vb else if y = xa then some va else m y) → News h₀ L h (gl ++ news) → (∀ p ∈ news, p.1 ∉ wr) →
      wpAny (model prog w) A (execs body env) (fun f s' => TEnd (PEnd h₀ L { s with heap := h, toks := tk, gens := gs } Q wr gl (J (i + 1)) f s')) (notedBy (model prog w) A env fun e s' => cameBackBy (model prog w) A env E e s') { s with heap := h, toks := tk, gens := gs })
    (done : ∀ h tk gs m news, s.toks ≤ tk → J n m news → G s.gens gs → Fr h₀ L h m → News h₀ L h news → Q .next { s with heap := h, toks := tk, gens := gs }) :
    codeAny (model prog w) A (.forLoop (.Tuple [.Name xa pa, .Name xb pb] kt pt) (.ref a) body [] env) (fun r s' => match r with | .ok f => Q f s' | .error e => cameBackBy (model prog w) A env E e s') s := by
  subst hL
  refine codeAny_forLoop_any (fun k s' => s.toks ≤ s'.toks ∧ ∃ i h tk gs m news gl, k = n - i ∧ i ≤ n ∧ s' = { s with heap := h, toks := tk, gens := gs } ∧ St i s' ∧ G s.gens gs ∧ gl.map (·.1) = gl₀.map (·.1) ∧ Fr h₀ env.locals h m ∧ News h₀ env.locals h (gl ++ news) ∧ (∀ p ∈ news, p.1 ∉ wr) ∧ J i m news) ?_ n
    ⟨Nat.le_refl _, 0, s.heap, s.toks, s.gens, m₀, news₀, gl₀, rfl, Nat.zero_le _, rfl, hst, hrf _, rfl, F, N, hnw, hJ⟩
  rintro k _ ⟨ht, i, h, tk, gs, m, news, gl, rfl, hi, rfl, st, hG, hgl, F', N', hn, hJ'⟩
  have hwrL : ∀ b ∈ wr, b ≠ env.locals ∧ h₀.get? b = none := fun b hb => by
    have h1 := hwr b hb
    rw [← hgl] at h1
    obtain ⟨p, hp1, rfl⟩ := List.mem_map.mp h1
    exact (N' p (List.mem_append.mpr (.inl hp1))).2
  have keepF : ∀ {h' : Heap}, (∀ b o, b ∉ wr → h.get? b = some o → h'.get? b = some o) → Fr h₀ env.locals h' m := fun {h'} hk => by
    obtain ⟨ob, es, ep, e1, e2⟩ := F'.ns
    refine ⟨⟨ob, es, ep, hk _ _ (fun hb => (hwrL _ hb).1 rfl) e1, e2⟩, fun b o e => hk _ _ ?_ (F'.keep b o e), F'.above⟩
    intro hb
    rw [(hwrL _ hb).2] at e; cases e
  by_cases hin : i < n
  · refine W.item i _ _ _ hin st fun v s1 la hP hla st1 mv => ?_
    obtain ⟨h1, g1, d1, t1, os1⟩ := s1
    obtain ⟨T, va, vb, rfl, hT, hf2⟩ := hP
    obtain ⟨mh, mg, md, mo, mt⟩ := mv
    dsimp only at mh mg md mo mt hT hf2
    subst md mo
    obtain ⟨gg, hgg⟩ := hgen _ _ st1
    refine letGo_gen hgg ?_
    have F1 := keepF mh
    have N1 : News h₀ env.locals h1 (reread h1 gl ++ news) := by
      refine news_app (fun p hp1 => ?_) fun p hp1 => ⟨mh _ _ (hn p hp1) (N' p (List.mem_append.mpr (.inr hp1))).1, (N' p (List.mem_append.mpr (.inr hp1))).2⟩
      obtain ⟨q, hq, rfl⟩ := List.mem_map.mp hp1
      have hNq := N' q (List.mem_append.mpr (.inl hq))
      refine ⟨?_, hNq.2⟩
      obtain ⟨o, ho⟩ : ∃ o, h1.get? q.1 = some o := by
        by_cases hb : q.1 ∈ wr
        · exact hex _ _ st1 _ hb
        · exact ⟨_, mh _ _ hb hNq.1⟩
      simp only [ho, Option.getD_some]
    have hlaL : ∀ b ∈ la, h₀.get? b = none ∧ b ≠ env.locals ∧ b ∉ wr ∧ ∀ p ∈ news, p.1 ≠ b := fun b hb => by
      have e := hla b hb
      dsimp only at e
      refine ⟨?_, ?_, ?_, fun p hp q => ?_⟩
      rotate_left 3
      · have := (N' p (List.mem_append.mpr (.inr hp))).1
        rw [q, e] at this; cases this
      · cases z : h₀.get? b with
        | none => rfl
        | some o => rw [F'.keep b o z] at e; cases e
      · intro q
        obtain ⟨ol, _, _, hol, _⟩ := F'.ns
        rw [← q, e] at hol; cases hol
      · intro q
        obtain ⟨o, ho⟩ := hex _ _ st b q
        dsimp only at ho
        rw [e] at ho; cases ho
    have ht1 : s.toks ≤ t1 := Nat.le_trans ht mt
    refine wpAny_with_toks (n := s.toks) ht1 (kcp_assign hh hT hxa hxb hp F1.ns fun h2 tk2 hn2 up => ?_)
    intro htk
    replace htk : s.toks ≤ tk2 := htk
    have F2' : Fr h₀ env.locals h2 (fun z => if z = xb then some vb else if z = xa then some va else m z) := by
      refine ⟨hn2, fun b o e => up b o ?_ (F1.keep b o e), F1.above⟩
      intro q
      exact Nat.lt_irrefl _ (Nat.lt_of_lt_of_le (q ▸ Heap.lt_size e) F1.above)
    have N2 : News h₀ env.locals h2 (reread h1 gl ++ news) := fun p hp1 => ⟨up _ _ (N1 p hp1).2.1 (N1 p hp1).1, (N1 p hp1).2⟩
    have st2 : St (i + 1) ({ s with heap := h2, toks := tk2, gens := g1 } : Shared) := W.frame (i + 1) _ h2 tk2 st1 fun b hb o e => by
      rcases hcov b hb with ⟨o', e'⟩ | hb'
      · have := F1.keep b o' e'
        rw [show h1.get? b = some o from e] at this; cases this
        exact F2'.keep b o e'
      · rw [← hgl, ← reread_fst h1 gl] at hb'
        obtain ⟨p, hp1, rfl⟩ := List.mem_map.mp hb'
        have e1 := (N1 p (List.mem_append.mpr (.inl hp1))).1
        rw [show h1.get? p.1 = some o from e] at e1; cases e1
        exact (N2 p (List.mem_append.mpr (.inl hp1))).1
    have hgl2 : (reread h1 gl).map (·.1) = gl₀.map (·.1) := (reread_fst h1 gl).trans hgl
    refine wpAny_mono (turn i va vb h2 tk2 g1 m news (reread h1 gl) la htk hin (hF2 _ _ _ _ _ _ hf2 fun b hb o e => up b o (hlaL b hb).2.1 e) hlaL hJ' hgl2 (htr _ _ _ hG mg) F2' N2 hn) (fun f s₃ hf => ?_) fun _ _ e => e
    have hf := hf.out
    unfold PEnd at hf
    have fin : (∃ h' tk' m' news', s₃ = { ({ s with heap := h2, toks := tk2, gens := g1 } : Shared) with heap := h', toks := tk' } ∧ tk2 ≤ tk' ∧ Fr h₀ env.locals h' m' ∧ News h₀ env.locals h' (reread h1 gl ++ news') ∧ (∀ p ∈ news', p.1 ∉ wr) ∧ J (i + 1) m' news') → ∃ k', k' < n - i ∧ (s.toks ≤ s₃.toks ∧ ∃ i h tk gs m news gl, k' = n - i ∧ i ≤ n ∧ s₃ = { s with heap := h, toks := tk, gens := gs } ∧ St i s₃ ∧ G s.gens gs ∧ gl.map (·.1) = gl₀.map (·.1) ∧ Fr h₀ env.locals h m ∧ News h₀ env.locals h (gl ++ news) ∧ (∀ p ∈ news, p.1 ∉ wr) ∧ J i m news) := by
      rintro ⟨h3, tk3, m3, news3, rfl, ht3, F5, N5, hn5, J5⟩
      refine ⟨n - (i + 1), by omega, Nat.le_trans htk ht3, i + 1, h3, tk3, g1, m3, news3, reread h1 gl, rfl, hin, rfl, ?_, htr _ _ _ hG mg, hgl2, F5, N5, hn5, J5⟩
      refine W.frame (i + 1) _ h3 tk3 st2 fun b hb o e => ?_
      rcases hcov b hb with ⟨o', e'⟩ | hb'
      · have := F2'.keep b o' e'
        rw [show h2.get? b = some o from e] at this; cases this
        exact F5.keep b o e'
      · rw [← hgl2] at hb'
        obtain ⟨p, hp1, rfl⟩ := List.mem_map.mp hb'
        have e1 := (N2 p (List.mem_append.mpr (.inl hp1))).1
        rw [show h2.get? p.1 = some o from e] at e1; cases e1
        exact (N5 p (List.mem_append.mpr (.inl hp1))).1
    cases f with
    | brk => exact hf
    | ret v => exact hf
    | next => exact fin hf
    | cont => exact fin hf
  · have : i = n := by omega
    subst this
    refine W.done _ _ _ st fun s1 mv => ?_
    obtain ⟨h1, g1, d1, t1, os1⟩ := s1
    obtain ⟨mh, mg, md, mo, mt⟩ := mv
    dsimp only at mh mg md mo mt
    subst md mo
    refine wpAny_execs_nil (done h1 t1 g1 m news (Nat.le_trans ht mt) hJ' (htr _ _ _ hG mg) (keepF mh) fun p hp1 => ?_)
    exact ⟨mh _ _ (hn p hp1) (N' p (List.mem_append.mpr (.inr hp1))).1, (N' p (List.mem_append.mpr (.inr hp1))).2⟩
end
end Mine
end
/-! part Forg -/
section
theorem Mine.startForg : True := by
  w_top off
  exact trivial
open PySem PySem.W PyProof.Rows PySem.Calls PySem.Spec
set_option Elab.async false
namespace Mine
/-! for x in a list, where the turns may wake generators -/
section
variable {prog : Program} {w : World} {A : Around} {E : Value → Shared → Prop} {s : Shared} {env : Env} {h₀ : Heap} {L : Addr} {Q : Flow → Shared → Prop}
def GEnd (h₀ : Heap) (L : Addr) (s : Shared) (Q : Flow → Shared → Prop) (I : Addr) (oI : Obj) (J : Array GenState → (Str → Option Value) → List (Addr × Obj) → Prop) (f : Flow) (s' : Shared) : Prop :=
  match f with
  | .brk => Q .next s'
  | .ret v => Q (.ret v) s'
  | _ => ∃ h tk gs m news, s' = { s with heap := h, toks := tk, gens := gs } ∧ Fr h₀ L h m ∧ News h₀ L h ((I, oI) :: news) ∧ (∀ p ∈ news, p.1 ≠ I) ∧ J gs m news
theorem list_loop {tgt : Str} {D : Addr} {vs : Array Value} {nc : Nat} {px : Pos} {body : List Stmt} {m₀ : Str → Option Value} {news₀ : List (Addr × Obj)} (hh : A.handled = none)
    (hL : env.locals = L) (hx : env.kindOf tgt = some .local) (hp : (env.scope.kind == .class || (env.scope.kind == .module && env.locals != env.globals)) = false)
    (J : Nat → Array GenState → (Str → Option Value) → List (Addr × Obj) → Prop) (hJm : ∀ i gs m news, J i gs m news → (D, listOf vs nc) ∈ news) (F : Fr h₀ L s.heap m₀) (N : News h₀ L s.heap news₀) (hJ : J 0 s.gens m₀ news₀)
    (turn : ∀ i v h tk gs m news I oI, s.toks ≤ tk → vs[i]? = some v → J i gs m news → Fr h₀ L h (fun y => if y = tgt then some v else m y) → News h₀ L h ((I, oI) :: news) → (∀ p ∈ news, p.1 ≠ I) →
      wpAny (model prog w) A (execs body env) (fun f s' => TEnd (GEnd h₀ L s Q I oI (J (i + 1)) f s')) (notedBy (model prog w) A env fun e s' => cameBackBy (model prog w) A env E e s') { s with heap := h, toks := tk, gens := gs })
    (done : ∀ h tk gs m news, s.toks ≤ tk → J vs.size gs m news → Fr h₀ L h m → News h₀ L h news → Q .next { s with heap := h, toks := tk, gens := gs }) :
    wpAny (model prog w) A (pyIter (.ref D)) (fun it s' => codeAny (model prog w) A (.forLoop (.Name tgt px) it body [] env) (fun r s' => match r with | .ok f => Q f s' | .error e => cameBackBy (model prog w) A env E e s') s') E s := by
  have hD := (N _ (hJm _ _ _ _ hJ)).1
  refine wpAny_pyIter_list ⟨_, hD, rfl, nc, rfl⟩ ?_
  subst hL
  have hI0 : h₀.get? s.heap.objs.size = none := by
    cases hc : h₀.get? s.heap.objs.size with
    | none => rfl
    | some o => exact absurd (Heap.lt_size (F.keep _ _ hc)) (Nat.lt_irrefl _)
  have hIL : (s.heap.objs.size : Addr) ≠ env.locals := Nat.ne_of_gt (F.ns.lt)
  have hIn : ∀ p ∈ news₀, p.1 ≠ s.heap.objs.size := fun p hp => Nat.ne_of_lt (Heap.lt_size (N p hp).1)
  have hst0 : (s.heap.push { cls := .type "list_iterator", data := .fields #[.ref D, .int 0 0] }).IsListIter s.heap.objs.size D 0 := ⟨_, Heap.get?_push_size _ rfl, rfl, rfl⟩
  have F1 := F.push { cls := .type "list_iterator", data := .fields #[.ref D, .int 0 0] }
  have N1 : News h₀ env.locals (s.heap.push { cls := .type "list_iterator", data := .fields #[.ref D, .int 0 0] }) news₀ := N.pushKeep _
  generalize s.heap.objs.size = I at hI0 hIL hIn hst0 ⊢
  refine codeAny_forLoop_any (fun k st => s.toks ≤ st.toks ∧ ∃ i h tk gs m news, k = vs.size - i ∧ i ≤ vs.size ∧ st = { s with heap := h, toks := tk, gens := gs } ∧ h.IsListIter I D i ∧ Fr h₀ env.locals h m ∧ News h₀ env.locals h news ∧ (∀ p ∈ news, p.1 ≠ I) ∧ J i gs m news) ?_ vs.size
    ⟨Nat.le_refl _, 0, _, s.toks, s.gens, m₀, news₀, rfl, Nat.zero_le _, rfl, hst0, F1, N1, hIn, hJ⟩
  rintro k _ ⟨ht, i, h, tk, gs, m, news, rfl, hi, rfl, st, F', N', hn, hJ'⟩
  have hDn := hJm _ _ _ _ hJ'
  have hDL : h.IsList D vs := ⟨_, (N' _ hDn).1, rfl, nc, rfl⟩
  have hDI : D ≠ I := hn _ hDn
  have keepF : ∀ {h' : Heap}, (∀ b o, b ≠ I → h.get? b = some o → h'.get? b = some o) → Fr h₀ env.locals h' m := fun {h'} hk => by
    obtain ⟨ob, es, ep, e1, e2⟩ := F'.ns
    refine ⟨⟨ob, es, ep, hk _ _ (Ne.symm hIL) e1, e2⟩, fun b o e => hk _ _ ?_ (F'.keep b o e), F'.above⟩
    intro hb
    rw [hb, hI0] at e; cases e
  have keepN : ∀ {h' : Heap}, (∀ b o, b ≠ I → h.get? b = some o → h'.get? b = some o) → News h₀ env.locals h' news := fun {h'} hk p hp => ⟨hk _ _ (hn p hp) (N' p hp).1, (N' p hp).2⟩
  by_cases hin : i < vs.size
  · refine wpAny_with_toks ht (wpAny_pyNext_list_item st hDL (Array.getElem?_eq_getElem hin) fun h' st' hs' => ?_)
    have hk : ∀ b o, b ≠ I → h.get? b = some o → h'.get? b = some o := fun b o hb e => hs'.extBut b o hb e
    dsimp only
    intro htk
    refine wpAny_of_eq (rfl : letOwnedTupleGo (.Name tgt px) (.ref I) vs[i] = pure ()) ?_
    have F2 := keepF hk
    have N2 := keepN hk
    refine wpAny_with_toks htk (wpAny_assign_Name (wpAny_storeName_local hx F2.ns (fun h₂ hn₂ hs₂ => ?_) hp))
    intro htk2
    have F3 := F2.set hn₂ hs₂
    have N3 := N2.set hs₂
    obtain ⟨oI, hoI, hcI, hdI⟩ := st'
    have hoI2 : h₂.get? I = some oI := hs₂.extBut _ _ hIL hoI
    have N4 : News h₀ env.locals h₂ ((I, oI) :: news) := fun p hp => by
      rcases List.mem_cons.mp hp with rfl | hp
      · exact ⟨hoI2, hIL, hI0⟩
      · exact N3 p hp
    refine wpAny_with_toks htk2 (wpAny_mono (turn i vs[i] h₂ _ gs m news I oI htk2 (Array.getElem?_eq_getElem hin) hJ' F3 N4 hn) (fun f s₃ hf ht3 => ?_) fun _ _ e _ => e)
    have hf := hf.out
    unfold GEnd at hf
    cases f with
    | brk => exact hf
    | ret v => exact hf
    | next =>
      obtain ⟨h3, tk3, gs3, m3, news3, rfl, F5, N5, hn5, J5⟩ := hf
      exact ⟨vs.size - (i + 1), by omega, ht3, i + 1, h3, tk3, gs3, m3, news3, rfl, hin, rfl, ⟨oI, (N5 _ (.head _)).1, hcI, hdI⟩, F5, fun p hp => N5 p (.tail _ hp), hn5, J5⟩
    | cont =>
      obtain ⟨h3, tk3, gs3, m3, news3, rfl, F5, N5, hn5, J5⟩ := hf
      exact ⟨vs.size - (i + 1), by omega, ht3, i + 1, h3, tk3, gs3, m3, news3, rfl, hin, rfl, ⟨oI, (N5 _ (.head _)).1, hcI, hdI⟩, F5, fun p hp => N5 p (.tail _ hp), hn5, J5⟩
  · have : i = vs.size := by omega
    subst this
    refine wpAny_with_toks ht (wpAny_pyNext_list_end hh st hDL (by simp) fun h' hk htk => ?_)
    dsimp only
    exact wpAny_execs_nil (done h' tk gs m news htk hJ' (keepF hk) (keepN hk))
theorem for_listG {tgt nm : Str} {D : Addr} {vs : Array Value} {nc : Nat} {px pn pos : Pos} {body : List Stmt} {m₀ : Str → Option Value} {news₀ : List (Addr × Obj)} (hh : A.handled = none)
    (hL : env.locals = L) (hx : env.kindOf tgt = some .local) (hp : (env.scope.kind == .class || (env.scope.kind == .module && env.locals != env.globals)) = false)
    (J : Nat → Array GenState → (Str → Option Value) → List (Addr × Obj) → Prop) (hJm : ∀ i gs m news, J i gs m news → (D, listOf vs nc) ∈ news) (F : Fr h₀ L s.heap m₀) (N : News h₀ L s.heap news₀) (hJ : J 0 s.gens m₀ news₀)
    (hread : wpAny (model prog w) A (eval (.Name nm pn) env) (fun v s' => v = .ref D ∧ s' = s) E s)
    (turn : ∀ i v h tk gs m news I oI, s.toks ≤ tk → vs[i]? = some v → J i gs m news → Fr h₀ L h (fun y => if y = tgt then some v else m y) → News h₀ L h ((I, oI) :: news) → (∀ p ∈ news, p.1 ≠ I) →
      wpAny (model prog w) A (execs body env) (fun f s' => TEnd (GEnd h₀ L s Q I oI (J (i + 1)) f s')) (notedBy (model prog w) A env fun e s' => cameBackBy (model prog w) A env E e s') { s with heap := h, toks := tk, gens := gs })
    (done : ∀ h tk gs m news, s.toks ≤ tk → J vs.size gs m news → Fr h₀ L h m → News h₀ L h news → Q .next { s with heap := h, toks := tk, gens := gs })
    (hs : ∀ v, foldedSetIterable (.Name nm pn) env v = pure v) :
    wpAny (model prog w) A (exec (.For (.Name tgt px) (.Name nm pn) body [] pos) env) Q E s := by
  refine wpAny_For (wpAny_mono hread (fun v s' hv => ?_) fun _ _ e => e) hs
  obtain ⟨rfl, rfl⟩ := hv
  exact list_loop hh hL hx hp J hJm F N hJ turn done
end
end Mine
end
/-! part Iga -/
section
theorem Mine.startIga : True := by
  w_top off
  exact trivial
open PySem PySem.W PyProof.Rows PySem.Calls PySem.Spec
set_option Elab.async false
set_option pp.deepTerms false
set_option pp.maxSteps 3000
set_option maxRecDepth 100000
namespace Mine
section
variable {prog : Program} {w : World} {A : Around} {E : Value → Shared → Prop} {s : Shared} {K : Frag} {x C : Addr} {ox : Obj} {odx : Option Obj} {name : Str} {h₀ : Heap} {L : Addr} {m : Str → Option Value} {news : List (Addr × Obj)}
theorem inst_ga {Q : Value → Shared → Prop} (X : K.In s.heap) (I : InstAt s.heap x ox C odx) (hga : findIn K (.ref C) "__getattribute__" = some (some (.builtin "dict.__getattribute__"))) (hgn : findIn K (.ref C) "__getattr__" = some none)
    (h : wpAny (model prog w) A (call (.builtin "dict.__getattribute__") [.ref x, .str name s.toks]) (fun v s' => (∃ q, v = .ref q) ∧ Q v s') (fun _ _ => False) { s with toks := s.toks + 1 }) :
    wpAny (model prog w) A (getAttr (.ref x) name true) Q E s := by
  obtain ⟨hh, g, d, t, os⟩ := s
  have L0 := I.type (M := model prog w)
  have L1 := looks_findIn (M := model prog w) X hga
  have L2 := looks_findIn (M := model prog w) X hgn
  unfold getAttr getAttrBy
  refine wpAny_bind (wpAny_mkText (wpAny_holding (wpAny_bind (L0.at (wpAny_bind (L1.at ?_))))))
  show wpAny _ _ (getAttrByItsOwn (.ref x) (.str name t) (.ref C) (.builtin "dict.__getattribute__") true true) _ _ _
  unfold getAttrByItsOwn hookBefore callGetattribute boundAndCalled
  refine wpAny_bind (show wpAny _ _ (typeLookup (.ref C) "__getattr__") _ _ _ from L2.at ?_)
  refine wpAny_bind (wpAny_attempt (wpAny_holding ?_))
  show wpAny _ _ (bindSpecial (.builtin "dict.__getattribute__") (.ref x) >>= _) _ _ _
  refine wpAny_bind (wpAny_of_eq (F.slot_dict_getattribute.bind _) ?_)
  refine wpAny_mono h (fun v s' hv => ?_) fun _ _ z => z.elim
  obtain ⟨⟨q, rfl⟩, hq⟩ := hv
  exact wpAny_pure hq
/-- what was made anew, in the ledger -/
theorem made_fr {P : Obj → Prop} {v : Value} {s' : Shared} (F : Fr h₀ L s.heap m) (N : News h₀ L s.heap news) (h : Made s P v s') :
    ∃ q o h' tk, v = .ref q ∧ s' = { s with heap := h', toks := tk } ∧ P o ∧ Fr h₀ L h' m ∧ News h₀ L h' ((q, o) :: news) ∧ (∀ p ∈ news, p.1 ≠ q) := by
  obtain ⟨q, o, h', tk, rfl, rfl, k, hn, hq, hp⟩ := h
  refine ⟨q, o, h', tk, rfl, rfl, hp, F.keeps k, ?_, ?_⟩
  · intro p hm
    rcases List.mem_cons.mp hm with rfl | hm
    · refine ⟨hq, ?_, ?_⟩
      · intro e
        dsimp only at e
        obtain ⟨ol, _, _, hol, _⟩ := F.ns
        rw [← e, hn] at hol; cases hol
      · cases z : h₀.get? q with
        | none => rfl
        | some o' => have := F.keep q o' z; rw [hn] at this; cases this
    · exact ⟨k _ _ (N p hm).1, (N p hm).2⟩
  · intro p hm e
    have := (N p hm).1
    rw [e, hn] at this; cases this
end
end Mine
end
/-! part Gst -/
section
theorem Mine.startGst : True := by
  w_top off
  exact trivial
local macro_rules | `(tactic| walk_at "pad0") => `(tactic| skip)
open PySem PySem.W PyProof.Rows PySem.Calls PySem.Spec
set_option Elab.async false
set_option maxRecDepth 100000
namespace Mine
/-! what a dict of parameters holds: texts, or lists of texts -/
inductive UV where
  | one (x : Str)
  | many (xs : List Str)
def UVal (ls : List (Addr × Obj)) : UV → Value → Prop
  | .one x, v => ∃ t, v = .str x t
  | .many xs, v => ∃ b ys n, v = .ref b ∧ (b, listOf ys.toArray n) ∈ ls ∧ StrsAre ys xs
inductive UVals (ls : List (Addr × Obj)) : List (Str × UV) → List (Str × Value) → Prop
  | nil : UVals ls [] []
  | cons {k : Str} {u : UV} {v : Value} {xs : List (Str × UV)} {kvs : List (Str × Value)} : UVal ls u v → UVals ls xs kvs → UVals ls ((k, u) :: xs) ((k, v) :: kvs)
theorem UVal.mono {ls ls' : List (Addr × Obj)} (h : ∀ p ∈ ls, p ∈ ls') : ∀ {u : UV} {v : Value}, UVal ls u v → UVal ls' u v
  | .one _, _, x => x
  | .many _, _, ⟨b, ys, n, e, m, r⟩ => ⟨b, ys, n, e, h _ m, r⟩
theorem UVals.mono {ls ls' : List (Addr × Obj)} (h : ∀ p ∈ ls, p ∈ ls') : ∀ {xs : List (Str × UV)} {kvs : List (Str × Value)}, UVals ls xs kvs → UVals ls' xs kvs
  | _, _, .nil => .nil
  | _, _, .cons a r => .cons (a.mono h) (r.mono h)
theorem UVals.snoc {ls : List (Addr × Obj)} {k : Str} {u : UV} {v : Value} (hv : UVal ls u v) : ∀ {xs : List (Str × UV)} {kvs : List (Str × Value)}, UVals ls xs kvs → UVals ls (xs ++ [(k, u)]) (kvs ++ [(k, v)])
  | _, _, .nil => .cons hv .nil
  | _, _, .cons a r => .cons a (r.snoc hv)
theorem UVals.keys {ls : List (Addr × Obj)} : ∀ {xs : List (Str × UV)} {kvs : List (Str × Value)}, UVals ls xs kvs → kvs.map (·.1) = xs.map (·.1)
  | _, _, .nil => rfl
  | _, _, .cons _ r => by simp [r.keys]
/-- the i-th pair of the generator -/
def F2 (xs : List (Str × UV)) (i : Nat) (va vb : Value) (h : Heap) (la : List Addr) : Prop :=
  ∃ k u t, xs[i]? = some (k, u) ∧ va = .str k t ∧ match u with
    | .one x => ∃ t', vb = .str x t'
    | .many zs => ∃ b ys n, vb = .ref b ∧ b ∈ la ∧ h.get? b = some (listOf ys.toArray n) ∧ StrsAre ys zs
theorem F2.keep {xs : List (Str × UV)} (i : Nat) (va vb : Value) (h h' : Heap) (la : List Addr) (x : F2 xs i va vb h la) (k : ∀ b ∈ la, ∀ o, h.get? b = some o → h'.get? b = some o) : F2 xs i va vb h' la := by
  obtain ⟨ky, u, t, e1, e2, e3⟩ := x
  refine ⟨ky, u, t, e1, e2, ?_⟩
  cases u with
  | one x => exact e3
  | many zs =>
    obtain ⟨b, ys, n, a1, a2, a3, a4⟩ := e3
    exact ⟨b, ys, n, a1, a2, k b a2 _ a3, a4⟩
/-- a generator object in the ledger that hands out these pairs -/
structure GenIn (w : World) (h₀ : Heap) (s : Shared) (gn : Addr) (gl : List (Addr × Obj)) (xs : List (Str × UV)) : Prop where
  obj : ∃ g nm t qn t', (gn, ({ cls := .type "generator", dict := none, data := .fields #[.int g 0, .str nm t, .str qn t'], slots := #[] } : Obj)) ∈ gl
  walks : ∃ (fp wr : List Addr) (G : Array GenState → Array GenState → Prop) (St : Nat → Shared → Prop), WalksH PySem.Challenge.rw_bl0007_01.row.prog w A9 gn fp wr G xs.length (PairP (F2 xs)) St ∧ (∀ x, G x x) ∧ (∀ x y z, G x y → G y z → G x z) ∧
    (∀ a b, G a b → AllBare a → AllBare b) ∧ (∀ i s, St i s → ∃ g, s.heap.IsGen gn g) ∧ (∀ i s, St i s → ∀ b ∈ wr, ∃ o, s.heap.get? b = some o) ∧ (∀ b ∈ fp, (∃ o, h₀.get? b = some o) ∨ b ∈ gl.map (·.1)) ∧ (∀ b ∈ wr, b ∈ gl.map (·.1)) ∧ gn ∉ wr ∧ St 0 s
theorem GenIn.move {w : World} {h₀ h₁ : Heap} {L L' : Addr} {m m' : Str → Option Value} {s : Shared} {h' : Heap} {tk : Nat} {gn : Addr} {gl : List (Addr × Obj)} {xs : List (Str × UV)} (x : GenIn w h₀ s gn gl xs) (F : Fr h₀ L s.heap m) (N : News h₀ L s.heap gl)
    (hk : ∀ b o, h₀.get? b = some o → h₁.get? b = some o) (F' : Fr h₁ L' h' m') (N' : News h₁ L' h' gl) : GenIn w h₁ { s with heap := h', toks := tk } gn gl xs := by
  obtain ⟨ob, fp, wr, G, St, W, a1, a2, a3, a4, a5, a6, a7, a8, a9⟩ := x
  refine ⟨ob, fp, wr, G, St, W, a1, a2, a3, a4, a5, fun b hb => ?_, a7, a8, ?_⟩
  · rcases a6 b hb with ⟨o, e⟩ | e
    · exact .inl ⟨o, hk b o e⟩
    · exact .inr e
  · refine W.frame 0 s h' tk a9 fun b hb o e => ?_
    rcases a6 b hb with ⟨o', e'⟩ | e'
    · have := F.keep b o' e'
      rw [e] at this; cases this
      exact F'.keep b o (hk b o e')
    · obtain ⟨p, hp, rfl⟩ := List.mem_map.mp e'
      have := (N p hp).1
      rw [e] at this; cases this
      exact (N' p hp).1
theorem news_ne {h₀ h : Heap} {L : Addr} {l : List (Addr × Obj)} {a b : Addr} {oa ob : Obj} (N : News h₀ L h l) (ha : (a, oa) ∈ l) (hb : (b, ob) ∈ l) (hn : oa ≠ ob) : a ≠ b := by
  rintro rfl
  have h1 := (N _ ha).1
  have h2 := (N _ hb).1
  dsimp only at h1 h2
  rw [h1] at h2
  exact hn (Option.some.inj h2)
end Mine
end
/-! part Xhas -/
section
theorem Mine.startXhas : True := by
  w_top off
  exact trivial
open PySem PySem.W PyProof.Rows PySem.Calls PySem.Spec
set_option Elab.async false
set_option pp.deepTerms false
set_option pp.maxSteps 3000
set_option maxRecDepth 100000
namespace Mine
def Got (s : Shared) (v0 v : Value) (s' : Shared) : Prop := ∃ h' tk, v = v0 ∧ s' = { s with heap := h', toks := tk } ∧ (∀ b o, s.heap.get? b = some o → h'.get? b = some o)
local macro_rules | `(tactic| x_close) => `(tactic| exact ⟨_, _, rfl, rfl, mem_old (by assumption)⟩)
theorem x_has_dict {w : World} {E : Value → Shared → Prop} {s : Shared} {dk : Addr} {t : Tok} (X : (K0 w.params).In s.heap) (hd : s.heap.get? dk = some { cls := .type "dict", dict := none, data := .dict #[] 0, slots := #[] }) :
    wpAny (model PySem.Challenge.rw_bl0007_01.row.prog w) A9 (call (.builtin "hasattr") [.ref dk, .str (Str.ofString "items") t]) (Got s (.bool true)) E s := by
  unfold call Got
  x_run
theorem x_has_gen {w : World} {E : Value → Shared → Prop} {s : Shared} {gn : Addr} {g : Int} {nm qn : Str} {t1 t2 t : Tok} (X : (K0 w.params).In s.heap) (hd : s.heap.get? gn = some { cls := .type "generator", dict := none, data := .fields #[.int g 0, .str nm t1, .str qn t2], slots := #[] }) :
    wpAny (model PySem.Challenge.rw_bl0007_01.row.prog w) A9 (call (.builtin "hasattr") [.ref gn, .str (Str.ofString "items") t]) (Got s (.bool false)) E s := by
  unfold call Got
  x_run
end Mine
namespace Mine
local macro_rules | `(tactic| x_close) => `(tactic| exact ⟨_, _, _, _, rfl, rfl, mem_old (by assumption), (mem_at (by assumption) (.head _)).2, (mem_at (by assumption) (.head _)).1, rfl⟩)
theorem x_iter_items {w : World} {E : Value → Shared → Prop} {s : Shared} {v dk : Addr} (X : (K0 w.params).In s.heap) (hv : s.heap.get? v = some { cls := .type "dict_items", dict := none, data := .fields #[.ref dk], slots := #[] }) (hd : s.heap.get? dk = some { cls := .type "dict", dict := none, data := .dict #[] 0, slots := #[] }) :
    wpAny (model PySem.Challenge.rw_bl0007_01.row.prog w) A9 (call (.builtin "iter") [.ref v]) (Made s fun o => o = { cls := .type "dict_itemiterator", dict := none, data := .fields #[.none, .bool false, .ref dk, .int 0 0, .int 0 0, .int 0 0, .none, .none], slots := #[] }) E s := by
  unfold call Made
  x_run
end Mine
end
/-! part Upd0 -/
section
theorem Mine.startUpd0 : True := by
  w_top off
  exact trivial
open PySem PySem.W PyProof.Rows PySem.Calls PySem.Spec
set_option Elab.async false
set_option maxRecDepth 100000
namespace Mine
section
variable {prog : Program} {w : World} {A : Around} {E : Value → Shared → Prop} {s : Shared} {env : Env} {h₀ : Heap} {L : Addr}
theorem read_nm {nm : Str} {pn : Pos} {v : Value} {m : Str → Option Value} {Q : Value → Shared → Prop} (F : Fr h₀ env.locals s.heap m) (hk : env.scope.kind = .function) (hloc : env.kindOf nm = some .local) (hm : m nm = some v) (hd : (nm == ("__debug__" : Str)) = false) (hq : Q v s) :
    wpAny (model prog w) A (eval (.Name nm pn) env) Q E s := wpAny_Name (wpAny_loadName_local hk hloc F.ns hm hq) hd
theorem items0 {d : Addr} {od : Obj} {Q : Value → Shared → Prop} (hd : s.heap.get? d = some od) (hc : od.cls = .type "dict") (lo : (d == sysModules) = false)
    (hQ : Q (.ref s.heap.objs.size) { s with heap := s.heap.push { cls := .type "dict_items", data := .fields #[.ref d] } }) : wpAny (model prog w) A (call (.builtin "dict.items") [.ref d]) Q E s := by
  have hT : s.TypeIs (.ref d) "dict" := ⟨_, hd, hc⟩
  refine wpAny_call_entry F.slot_dict_items hT F.entry_dict_items ?_ (F.args_dict_items_1 _)
  unfold Builtin.«dict.items»
  refine wpAny_bind ?_
  unfold Builtin.Dict.noArgs
  refine wpAny_bind (wpAny_notOrdered_dict ⟨_, hd, hc⟩ ?_)
  show wpAny _ _ (pure d) _ _ s
  refine wpAny_pure ?_
  show wpAny _ _ (Builtin.Dict.showsAll d >>= _) _ _ s
  unfold Builtin.Dict.showsAll
  rw [if_neg (by rw [lo]; exact Bool.false_ne_true)]
  refine wpAny_bind (wpAny_pure ?_)
  exact wpAny_bind (wpAny_newObj_type (wpAny_pure ⟨_, rfl, hQ⟩))
/-- for a, b in an iterator that has nothing to hand out -/
theorem for_items0 {target : Expr} {body : List Stmt} {it d : Addr} {od : Obj} {ep : Nat} {m : Str → Option Value} {news : List (Addr × Obj)} {Q : Flow → Shared → Prop} (hh : A.handled = none)
    (F : Fr h₀ L s.heap m) (N : News h₀ L s.heap news) (hit : (it, itObj d 0 0 ep .none .none .none) ∈ news) (hd : (d, od) ∈ news) (hdd : od.data = .dict #[] ep) {news' : List (Addr × Obj)} (hsub : ∀ p ∈ news', p ∈ news) (hne : ∀ p ∈ news', p.1 ≠ it)
    (hQ : ∀ h', Fr h₀ L h' m → News h₀ L h' news' → Q .next { s with heap := h' }) :
    codeAny (model prog w) A (.forLoop target (.ref it) body [] env) (fun r s' => match r with | .ok f => Q f s' | .error e => cameBackBy (model prog w) A env E e s') s := by
  refine codeAny_forLoop_any (fun _ s' => s' = s) (fun n s' hs => ?_) 0 rfl
  subst hs
  have hI := (N _ hit)
  refine it_end (es := #[]) hh hI.1 (N _ hd).1 hdd (Nat.le_refl _) fun h' hk => ?_
  dsimp only
  refine wpAny_execs_nil (hQ h' ?_ fun p hp => ⟨hk _ _ (hne p hp) (N p (hsub p hp)).1, (N p (hsub p hp)).2⟩)
  obtain ⟨ob, es, ep, e1, e2⟩ := F.ns
  refine ⟨⟨ob, es, ep, hk _ _ (Ne.symm hI.2.1) e1, e2⟩, fun b o e => hk _ _ ?_ (F.keep b o e), F.above⟩
  intro hb
  have := hI.2.2
  dsimp only at this
  rw [hb, this] at e; cases e
end
end Mine
end
/-! part Upd -/
section
theorem Mine.startUpd : True := by
  w_top off
  exact trivial
local macro_rules | `(tactic| walk_at "pad0") => `(tactic| skip)
open PySem PySem.W PyProof.Rows PySem.Calls PySem.Spec
set_option Elab.async false
set_option maxRecDepth 100000
namespace Mine
section Upd
open DS
local macro_rules | `(tactic| walk_at "exec For Name Name cons nil") => `(tactic| refine TEnd.out ?_)
local macro_rules | `(tactic| walk_at "exec For") => `(tactic| refine TEnd.out ?_)
local macro_rules | `(tactic| walk_at "call builtin:hasattr") => `(tactic| refine TEnd.out ?_)
local macro_rules | `(tactic| walk_at "call builtin:dict.items") => `(tactic| refine TEnd.out ?_)
local macro_rules | `(tactic| walk_at "call builtin:iter") => `(tactic| refine TEnd.out ?_)
local macro_rules | `(tactic| walk_at "getMethod ref") => `(tactic| refine kdl_method (knd := PySem.strKind _ _) PySem.F.slot_dict_items PySem.F.type_dict_items (by k_asm) (by k_mem) (by assumption) ?_)
local macro_rules | `(tactic| walk_at "wpAt") => `(tactic| ((try dsimp only); ks_step "execs cons"; refine ks_wpAt_execs_cons ?_))
local macro_rules | `(tactic| k_room) => `(tactic| ktr_room)
local macro_rules | `(tactic| k_units) => `(tactic| ktr_units)
local macro_rules | `(tactic| k_all) => `(tactic| assumption)
local macro_rules | `(tactic| walk_at "eval Name") => `(tactic| (k_here; k_dflt (first
  | (refine' ld ?k1 ?k2 ?_; (case k1 => k_asm); (case k2 => first | exact rfl | assumption); k_whole)
  | (refine' nameX_L ?F ?v ?_ ?a ?b; (case F => k_asm); (case a => rfl); (case b => rfl); (case v => first | exact rfl | assumption); k_whole))))
local macro_rules | `(tactic| walk_at "loadName") => `(tactic| (k_here; k_dflt (refine' ldn ?k1 ?k2 ?_; (case k1 => k_asm); (case k2 => first | exact rfl | assumption); k_whole)))
set_option pp.deepTerms false
set_option pp.maxSteps 3000
set_option maxHeartbeats 4000000 in
theorem upd_w {w : World} {mean : ExcName → Option Value} {mg mb : Str → Option Value} {A : Around} {s : Shared} {R : Result → Shared → Prop} {h₀ : Heap} {L : Addr} {m : Str → Option Value} {D Dd gn : Addr} {gl news : List (Addr × Obj)} {xs : List (Str × UV)}
    (F : Fr h₀ L s.heap m) (X : (K0 w.params).In h₀) (N : News h₀ L s.heap ((D, pob 282 Dd #[] 0) :: (gl ++ news))) (T : Top hd.view_39 loos mean mg mb h₀) (hdp : A.depth ≤ 800) (hun : A.units ≤ 8000) (hh : A.handled = none) (hDd : (Dd, dict0) ∈ news) (hne : ∀ p ∈ gl ++ news, p.1 ≠ D) (hgn : ∀ p ∈ news, ∀ q ∈ gl, p.1 ≠ q.1)
    (GI : GenIn w h₀ s gn gl xs) (hnd : (xs.map fun p => Txt.upper p.1).Nodup) (hkl : ∀ p ∈ xs, p.1.length ≤ 1000) (hxl : xs.length ≤ 1000)
    (hret : ∀ h' tk gs es ep ls kvs, (AllBare s.gens → AllBare gs) → Fr h₀ L h' m → News h₀ L h' ((D, pob 282 Dd es ep) :: (ls ++ news)) → Ents es.toList kvs → UVals ls (xs.map fun p => (Txt.upper p.1, p.2)) kvs → R (.ok (.ret .none)) { s with heap := h', toks := tk, gens := gs }) :
    codeAny (model PySem.Challenge.rw_bl0007_01.row.prog w) A (.call (.ref 142) ⟨.ref D :: [.ref gn], []⟩) R s := by
  revert X; k_fill; intro X
  have hd1 : A.depth + 20 < recursionLimit := by have : recursionLimit = 1000 := rfl; omega
  refine' star_kAt (n0 := Str.ofString "self") (va := Str.ofString "args") (kw := Str.ofString "kwargs") F X N T ?ho ?hcd ?hroom ?hb ?hvs ?hl ?_ ?c2 ?c3 ?c4 ?c5
  case ho => k_is
  case hcd => k_is
  case hroom => omega
  case hb => rfl
  case hvs => simp
  case hl => decide
  case c2 => rfl
  case c3 => rfl
  case c4 => rfl
  case c5 => decide
  intro g1 L' h1 tp dk FG F' N' X' T' l1 l2 l3
  refine PySem.wpAt_of_wpAny ?_
  have hlo : (dk == sysModules) = false := by
    refine beq_eq_false_iff_ne.mpr fun e => ?_
    have h1 := (N' _ (.head _)).2.2
    have h2 := X' 1 _ rfl
    dsimp only at h1
    rw [e] at h1
    rw [show g1.get? 1 = none from h1] at h2
    cases h2
  k_steps
  refine TEnd.mk ?_
  have hdk : Obj.IsDictOf (PySem.strKind PySem.Challenge.rw_bl0007_01.row.prog w) (dictOf [] 0) [] := ⟨#[], 0, ⟨rfl, rfl, rfl⟩, rfl, fun _ he => by simp at he, .nil, List.nodup_nil⟩
  rename_i D0 c0 h00 lx0 l0 h01 lx1 ml h02 lx2 h03 F3 N3
  have hgk : ∀ b o, h₀.get? b = some o → g1.get? b = some o := FG.keep
  refine for_listG (D := ml) (vs := #[.ref gn, .ref dk]) (nc := 0) hh rfl rfl rfl
    (fun i gs m' nw => (AllBare s.gens → AllBare gs) ∧ m' (Str.ofString "self") = some (.ref D) ∧ match i with
      | 0 => gs = s.gens ∧ nw = (D, pob 282 Dd #[] 0) :: (ml, W.listOf #[.ref gn, .ref dk] 0) :: (dk, dictOf [] 0) :: (gl ++ news)
      | _ => ∃ es ep ls kvs, nw = (D, pob 282 Dd es ep) :: (ml, W.listOf #[.ref gn, .ref dk] 0) :: (dk, dictOf [] 0) :: (ls ++ news) ∧ Ents es.toList kvs ∧ UVals ls (xs.map fun p => (Txt.upper p.1, p.2)) kvs)
    ?hJm F3 (news₀ := (D, pob 282 Dd #[] 0) :: (ml, W.listOf #[.ref gn, .ref dk] 0) :: (dk, dictOf [] 0) :: (gl ++ news)) ?N ⟨id, rfl, rfl, rfl⟩ ?read ?turn ?done (fun _ => rfl)
  case hJm =>
    rintro i gs m' nw ⟨_, _, h⟩
    match i, h with
    | 0, ⟨_, e⟩ => subst e; simp
    | _ + 1, ⟨es, ep, ls, kvs, e, _⟩ => subst e; simp
  case N =>
    intro p hp
    refine N3 p ?_
    simp only [List.mem_cons, List.mem_append] at hp ⊢
    rcases hp with h | h | h | h | h <;> simp [h]
  case read => k_steps
  case done =>
    rintro h tk gs m' nw htk ⟨hb, _, es, ep, ls, kvs, rfl, he, hv⟩ F5 N5
    k_steps
    rename_i F9 N9 _ _
    refine hret _ _ _ es ep ls kvs hb F9 (fun p hp => N9 p ?_) he hv
    simp only [List.mem_cons, List.mem_append] at hp ⊢
    rcases hp with h | h | h <;> simp [h]
  case turn =>
    rintro i v h tk gs m' nw I oI htk hv ⟨hb, hself, hJ⟩ F5 N5 hnI
    match i, hv, hJ with
    | 0, hv, ⟨e1, e2⟩ =>
      subst e1 e2
      have hv' : v = .ref gn := (Option.some.inj hv).symm
      subst hv'
      obtain ⟨og1, og2, og3, og4, og5, hog⟩ := GI.obj
      have hgm : ∀ p ∈ gl, p ∈ (I, oI) :: (D, pob 282 Dd #[] 0) :: (ml, W.listOf #[.ref gn, .ref dk] 0) :: (dk, dictOf [] 0) :: (gl ++ news) := fun p hp => .tail _ (.tail _ (.tail _ (.tail _ (List.mem_append.mpr (.inl hp)))))
      k_steps
      refine TEnd.mk ?_
      refine up9 hh (by show A.depth + 1 ≤ 900; omega) (by show A.units + 3 ≤ 9000; omega) (wpAny_mono (x_has_gen (X'.keeps F5.keep) (N5 _ (hgm _ hog)).1) (fun v s' hv => ?_) fun _ _ z => z)
      obtain ⟨h6, tk6, rfl, rfl, k6⟩ := hv
      have F6 := F5.keeps k6
      have N6 := N5.grown k6
      k_steps
      refine TEnd.mk ?_
      refine wpAny_For (read_nm F6 rfl rfl rfl rfl ?_) (fun _ => rfl)
      have GI6 := GI.move (tk := tk6) F (fun p hp => N p (.tail _ (List.mem_append.mpr (.inl hp)))) hgk F6 (fun p hp => N6 p (hgm p hp))
      obtain ⟨_, fp, wr, G, St, Wk, b1, b2, b3, b4, b5, b6, b7, b8, b9⟩ := GI6
      refine Wk.up (A := A.deeper _) hh (by show A.depth + 1 ≤ 900; omega) (by show A.units + 3 ≤ 9000; omega) rfl rfl |>.self 0 _ _ _ b9 ?_
      have hglN : ∀ p ∈ gl, p.1 ≠ L' ∧ g1.get? p.1 = none := fun p hp => (N6 p (hgm p hp)).2
      have hDml : ml ≠ D := news_ne N6 (.tail _ (.tail _ (.head _))) (.tail _ (.head _)) (fun e => nomatch congrArg Obj.cls e)
      have hDdk : dk ≠ D := news_ne N6 (.tail _ (.tail _ (.tail _ (.head _)))) (.tail _ (.head _)) (fun e => nomatch congrArg Obj.cls e)
      have hDI : I ≠ D := fun e => hnI _ (.head _) e.symm
      have hglt : ∀ q ∈ gl, @LT.lt Nat _ q.1 dk := fun q hq => Nat.lt_trans (l2 q (.tail _ (List.mem_append.mpr (.inl hq)))) l1
      have hnw6 : ∀ p ∈ (D, pob 282 Dd #[] 0) :: (I, oI) :: (ml, W.listOf #[.ref gn, .ref dk] 0) :: (dk, dictOf [] 0) :: news, p.1 ∉ wr := fun p hp hw => by
        obtain ⟨q, hq, e⟩ := List.mem_map.mp (b7 _ hw)
        have hqd := hglt q hq
        simp only [List.mem_cons] at hp
        rcases hp with h | h | h | h | h
        · exact hne q (List.mem_append.mpr (.inl hq)) (by rw [e, h])
        · exact hnI q (.tail _ (.tail _ (.tail _ (List.mem_append.mpr (.inl hq))))) (by rw [e, h])
        · rw [e, h] at hqd
          exact Nat.lt_irrefl _ (Nat.lt_trans hqd lx2.2.2.1)
        · rw [e, h] at hqd
          exact Nat.lt_irrefl _ hqd
        · exact hgn p h q hq e.symm
      refine for_pairs (gl₀ := gl) (news₀ := (D, pob 282 Dd #[] 0) :: (I, oI) :: (ml, W.listOf #[.ref gn, .ref dk] 0) :: (dk, dictOf [] 0) :: news) (Wk.up (A := A.deeper _) hh (by show A.depth + 1 ≤ 900; omega) (by show A.units + 3 ≤ 9000; omega) rfl rfl) b1 b2 b4 b5 F2.keep hh b6 b7 rfl rfl rfl rfl
        (fun i m' nw => m' (Str.ofString "self") = some (.ref D) ∧ ∃ es ep ls kvs, nw = (D, pob 282 Dd es ep) :: (I, oI) :: (ml, W.listOf #[.ref gn, .ref dk] 0) :: (dk, dictOf [] 0) :: (ls ++ news) ∧ (∀ p ∈ ls, p.1 ≠ D ∧ p.1 ≠ I) ∧ Ents es.toList kvs ∧ UVals ls ((xs.take i).map fun p => (Txt.upper p.1, p.2)) kvs)
        b9 F6 ?N6 hnw6 ⟨by rw [if_neg (by decide)]; exact hself, #[], 0, [], [], rfl, (fun _ h => nomatch h), .nil, .nil⟩ ?turn6 ?done6
      case N6 =>
        intro p hp
        refine N6 p ?_
        simp only [List.mem_cons, List.mem_append] at hp ⊢
        rcases hp with h | h | h | h | h | h <;> simp [h]
      case done6 =>
        rintro h10 tk10 gs10 m10 nw10 htk10 ⟨hs10, es, ep, ls, kvs, rfl, hlD, he, hvs⟩ hG10 F10 N10
        dsimp only
        refine wpAny_execs_nil ?_
        rw [List.take_length] at hvs
        refine ⟨⟨_, _, _, _, _, rfl, F10, ?_, ?_, fun hA => b3 _ _ hG10 (hb hA), hs10, es, ep, ls, kvs, rfl, he, hvs⟩⟩
        · intro p hp
          refine N10 p ?_
          simp only [List.mem_cons, List.mem_append] at hp ⊢
          rcases hp with h | h | h | h | h | h <;> simp [h]
        · intro p hp
          simp only [List.mem_cons, List.mem_append] at hp
          rcases hp with h | h | h | h | h
          · rw [h]; exact hDI.symm
          · rw [h]; exact hnI _ (.tail _ (.head _))
          · rw [h]; exact hnI _ (.tail _ (.tail _ (.head _)))
          · exact (hlD p h).2
          · exact hnI p (.tail _ (.tail _ (.tail _ (List.mem_append.mpr (.inr h)))))
      case turn6 =>
        rintro j va vb h10 tk10 gs10 m10 nw10 gl10 la htk10 hj hf2 hla ⟨hs10, es, ep, ls, kvs, rfl, hlD, he, hvs⟩ hgl10 hG10 F10 N10 hnw10
        obtain ⟨ky, u, tky, hxj, rfl, hu⟩ := hf2
        have hxm := List.mem_of_getElem? hxj
        obtain ⟨nl, hnl, hvl⟩ : ∃ nl : List (Addr × Obj), (∀ p ∈ nl, h10.get? p.1 = some p.2 ∧ p.1 ∈ la ∧ ∃ ys n, p.2 = W.listOf ys n) ∧ UVal nl u vb := by
          cases u with
          | one x => exact ⟨[], (fun _ h => nomatch h), hu⟩
          | many zs =>
            obtain ⟨b, ys, n, e1, e2, e3, e4⟩ := hu
            refine ⟨[(b, W.listOf ys.toArray n)], fun p hp => ?_, b, ys, n, e1, .head _, e4⟩
            rw [List.mem_singleton.mp hp]
            exact ⟨e3, e2, ys.toArray, n, rfl⟩
        have N11 : News g1 L' h10 ((D, pob 282 Dd es ep) :: (gl10 ++ ((I, oI) :: (ml, W.listOf #[.ref gn, .ref dk] 0) :: (dk, dictOf [] 0) :: (nl ++ (ls ++ news))))) := by
          intro p hp
          simp only [List.mem_cons, List.mem_append] at hp
          rcases hp with h | h | h | h | h | h | h | h
          · exact N10 p (by simp [h])
          · exact N10 p (by simp [h])
          · exact N10 p (by simp [h])
          · exact N10 p (by simp [h])
          · exact N10 p (by simp [h])
          · exact ⟨(hnl p h).1, (hla _ (hnl p h).2.1).2.1, (hla _ (hnl p h).2.1).1⟩
          · exact N10 p (by simp [h])
          · exact N10 p (by simp [h])
        have hnD : ∀ p ∈ nl, p.1 ≠ D := fun p hp => by
          obtain ⟨ys, n9, e⟩ := (hnl p hp).2.2
          exact news_ne (oa := p.2) N11 (by simp [hp]) (.head _) (by rw [e]; exact fun e => nomatch congrArg Obj.cls e)
        have hne11 : ∀ p ∈ gl10 ++ ((I, oI) :: (ml, W.listOf #[.ref gn, .ref dk] 0) :: (dk, dictOf [] 0) :: (nl ++ (ls ++ news))), p.1 ≠ D := by
          intro p hp
          simp only [List.mem_cons, List.mem_append] at hp
          rcases hp with h | h | h | h | h | h | h
          · have : p.1 ∈ gl.map (·.1) := hgl10 ▸ List.mem_map_of_mem h
            obtain ⟨q, hq, e⟩ := List.mem_map.mp this
            rw [← e]
            exact hne q (List.mem_append.mpr (.inl hq))
          · rw [h]; exact hDI
          · rw [h]; exact hDml
          · rw [h]; exact hDdk
          · exact hnD p h
          · exact (hlD p h).1
          · exact hne p (List.mem_append.mpr (.inr h))
        have hkeys := hvs.keys
        have hDd11 : (Dd, dict0) ∈ (D, pob 282 Dd es ep) :: (gl10 ++ ((I, oI) :: (ml, W.listOf #[.ref gn, .ref dk] 0) :: (dk, dictOf [] 0) :: (nl ++ (ls ++ news)))) := by
          simp only [List.mem_cons, List.mem_append]
          exact .inr (.inr (.inr (.inr (.inr (.inr (.inr hDd))))))
        k_steps
        refine ksp_setItem (x := D) (C := 282) (od := some dict0) (ox := pob 282 Dd es ep) (f := 78) F10 X' ⟨(N11 _ (.head _)).1, rfl, rfl, (N11 _ hDd11).1⟩ (by k_is) (by k_is) (by k_is) ?_
        refine wpAny_with_toks (n := tk10) (Nat.le_refl _) ?_
        refine setitem_w F10 X' N11 T' (by show A.depth + 1 + 20 < _; have : recursionLimit = 1000 := rfl; omega) (Dd := Dd) (oDd := dict0) hDd11 (.head hne11) he ?hk ?hsz (hkl _ hxm) ?_
        case hk =>
          rw [hkeys]
          intro hm
          obtain ⟨y, hy, e⟩ := List.mem_map.mp hm
          obtain ⟨y', hy', rfl⟩ := List.mem_map.mp hy
          dsimp only at e
          obtain ⟨n1, hn1, hn2⟩ := List.getElem_of_mem hy'
          rw [List.getElem_take] at hn2
          have hn3 : n1 < j ∧ n1 < xs.length := by simp only [List.length_take] at hn1; omega
          obtain ⟨hj1, hj2⟩ := List.getElem?_eq_some_iff.mp hxj
          exact (List.pairwise_iff_getElem.mp hnd) n1 j (by simpa using hn3.2) (by simpa using hj1) hn3.1 (by simp only [List.getElem_map, hn2, hj2, e])
        case hsz =>
          have := congrArg List.length hkeys
          simp only [List.length_map, List.length_take] at this
          omega
        intro h12 tk12 es12 ep12 F12 N12 he12 htk12
        replace N12 : News g1 L' h12 ((D, pob 282 Dd es12 ep12) :: (gl10 ++ ((I, oI) :: (ml, W.listOf #[.ref gn, .ref dk] 0) :: (dk, dictOf [] 0) :: (nl ++ (ls ++ news))))) := N12
        dsimp only
        have hp4 : h10 = h10 := rfl
        k_steps
        refine ⟨⟨_, _, _, (D, pob 282 Dd es12 ep12) :: (I, oI) :: (ml, W.listOf #[.ref gn, .ref dk] 0) :: (dk, dictOf [] 0) :: ((nl ++ ls) ++ news), rfl, ?_, F12, ?_, ?_, ?_, es12, ep12, nl ++ ls, _, rfl, ?_, he12, ?_⟩⟩
        · exact htk12
        · intro p hp
          refine N12 p ?_
          simp only [List.mem_cons, List.mem_append] at hp ⊢
          rcases hp with h | h | h | h | h | (h | h) | h <;> simp [h]
        · intro p hp
          simp only [List.mem_cons, List.mem_append] at hp
          rcases hp with h | h | h | h | (h | h) | h
          · rw [h]; exact hnw10 (D, pob 282 Dd es ep) (.head _)
          · rw [h]; exact hnw10 _ (.tail _ (.head _))
          · rw [h]; exact hnw10 _ (.tail _ (.tail _ (.head _)))
          · rw [h]; exact hnw10 _ (.tail _ (.tail _ (.tail _ (.head _))))
          · exact (hla _ (hnl p h).2.1).2.2.1
          · exact hnw10 p (by simp [h])
          · exact hnw10 p (by simp [h])
        · dsimp only
          rw [if_neg (by decide), if_neg (by decide)]
          exact hs10
        · intro p hp
          rcases List.mem_append.mp hp with h | h
          · refine ⟨hnD p h, ?_⟩
            intro q
            exact (hla _ (hnl p h).2.1).2.2.2 (I, oI) (.tail _ (.head _)) q.symm
          · exact hlD p h
        · obtain ⟨hj1, hj2⟩ := List.getElem?_eq_some_iff.mp hxj
          rw [List.take_add_one, hxj, List.map_append]
          refine UVals.snoc ?_ ?_
          · exact hvl.mono fun p hp => List.mem_append.mpr (.inl hp)
          · exact hvs.mono fun p hp => List.mem_append.mpr (.inr hp)
    | 1, hv, ⟨es, ep, ls, kvs, e, he, hvs⟩ =>
      subst e
      have hv' : v = .ref dk := (Option.some.inj hv).symm
      subst hv'
      k_steps
      refine TEnd.mk ?_
      refine up9 hh (by show A.depth + 1 ≤ 900; omega) (by show A.units + 3 ≤ 9000; omega) (wpAny_mono (x_has_dict (X'.keeps F5.keep) (N5 _ (.tail _ (.tail _ (.tail _ (.head _))))).1) (fun v s' hv => ?_) fun _ _ z => z)
      obtain ⟨h6, tk6, rfl, rfl, k6⟩ := hv
      have F6 := F5.keeps k6
      have N6 := N5.grown k6
      k_steps
      refine TEnd.mk ?_
      refine items0 (N6 _ (.tail _ (.tail _ (.tail _ (.head _))))).1 rfl hlo ?_
      dsimp only
      have F7 := F6.push { cls := .type "dict_items", data := .fields #[.ref dk] }
      have N7 := N6.push F6 { cls := .type "dict_items", data := .fields #[.ref dk] }
      have hlv : ∀ p ∈ (I, oI) :: (D, pob 282 Dd es ep) :: (ml, W.listOf #[.ref gn, .ref dk] 0) :: (dk, dictOf [] 0) :: (ls ++ news), p.1 < h6.objs.size := fun p hp => Heap.lt_size (N6 p hp).1
      k_steps
      refine TEnd.mk ?_
      refine up9 hh (by show A.depth + 1 ≤ 900; omega) (by show A.units + 3 ≤ 9000; omega) (wpAny_mono (x_iter_items (X'.keeps F7.keep) (N7 _ (.head _)).1 (N7 _ (.tail _ (.tail _ (.tail _ (.tail _ (.head _)))))).1) (fun v s' hv => ?_) fun _ _ z => z)
      obtain ⟨itx, oit, h8, tk8, rfl, rfl, rfl, F8, N8, hne8⟩ := made_fr F7 N7 hv
      k_steps
      refine TEnd.mk ?_
      rename_i h9 F9 N9
      refine wpAny_For (read_nm F9 rfl rfl rfl rfl ?_) (fun _ => rfl)
      refine kcp_self (N9 _ (.head _)).1 ?_
      refine for_items0 hh F9 N9 (.head _) (.tail _ (.tail _ (.tail _ (.tail _ (.tail _ (.head _)))))) rfl (fun p hp => .tail _ (.tail _ hp)) (fun p hp => hne8 p (.tail _ hp)) fun h10 F10 N10 => ?_
      dsimp only
      refine wpAny_execs_nil ?_
      exact ⟨⟨_, _, _, _, _, rfl, F10, N10, hnI, hb, by dsimp only; rw [if_neg (by decide), if_neg (by decide)]; exact hself, es, ep, ls, kvs, rfl, he, hvs⟩⟩
end Upd
end Mine
end
/-! part Cin -/
section
theorem Mine.startCin : True := by
  w_top off
  exact trivial
open PySem PySem.W PyProof.Rows PySem.Calls PySem.Spec
set_option Elab.async false
set_option maxRecDepth 100000
namespace Mine
section Cin
open DS
theorem call_init {prog : Program} {w : World} {A : Around} {E : Value → Shared → Prop} {s : Shared} {K : Frag} {x C q : Addr} {h₀ : Heap} {L : Addr} {m : Str → Option Value} {news : List (Addr × Obj)} {Q : Value → Shared → Prop} {ox : Obj} (F : Fr h₀ L s.heap m) (X₀ : K.In h₀) (N : News h₀ L s.heap news) (hq : (q, bnd "method-wrapper" "dict.__init__" x) ∈ news) (hx : s.heap.get? x = some ox) (hc : ox.cls = .ref C)
    (hod : mroIn K C (.type "collections.OrderedDict") = some false) (h : Q .none s) : wpAny (model prog w) A (call (.ref q) []) Q E s := by
  have X : K.In s.heap := X₀.keeps F.keep
  refine wpAny_call (code_bnd (by decide) (N _ hq).1 (plainId_quiet plain_init _) (wpAny_of_eq (check_init _) (codeAny_builtin entry_init ?_)))
  rw [Around.under_plainId plain_init _]
  exact body_init X hx hc hod h
local macro_rules | `(tactic| k_room) => `(tactic| ktr_room)
local macro_rules | `(tactic| k_units) => `(tactic| ktr_units)
local macro_rules | `(tactic| k_all) => `(tactic| assumption)
set_option pp.deepTerms false
set_option pp.maxSteps 3000
set_option maxHeartbeats 4000000 in
theorem cinit_w {w : World} {mean : ExcName → Option Value} {mg mb : Str → Option Value} {A : Around} {s : Shared} {R : Result → Shared → Prop} {h₀ : Heap} {L : Addr} {m : Str → Option Value} {D Dd gn : Addr} {gl nws : List (Addr × Obj)} {xs : List (Str × UV)}
    (F : Fr h₀ L s.heap m) (X : (K0 w.params).In h₀) (N : News h₀ L s.heap ((D, pob 282 Dd #[] 0) :: (gl ++ nws))) (T : Top hd.view_39 loos mean mg mb h₀) (hdp : A.depth ≤ 700) (hun : A.units ≤ 7000) (hh : A.handled = none) (hDd' : (Dd, dict0) ∈ nws) (hne : ∀ p ∈ gl ++ nws, p.1 ≠ D) (hgn : ∀ p ∈ nws, ∀ q ∈ gl, p.1 ≠ q.1)
    (GI : GenIn w h₀ s gn gl xs) (hnd : (xs.map fun p => Txt.upper p.1).Nodup) (hkl : ∀ p ∈ xs, p.1.length ≤ 1000) (hxl : xs.length ≤ 1000)
    (hret : ∀ h' tk gs es ep ls kvs, (AllBare s.gens → AllBare gs) → Fr h₀ L h' m → News h₀ L h' ((D, pob 282 Dd es ep) :: (ls ++ nws)) → Ents es.toList kvs → UVals ls (xs.map fun p => (Txt.upper p.1, p.2)) kvs → R (.ok (.ret .none)) { s with heap := h', toks := tk, gens := gs }) :
    codeAny (model PySem.Challenge.rw_bl0007_01.row.prog w) A (.call (.ref 62) ⟨.ref D :: [.ref gn], []⟩) R s := by
  obtain ⟨news, hnews⟩ : ∃ news, news = (D, pob 282 Dd #[] 0) :: (gl ++ nws) := ⟨_, rfl⟩
  have hDd : (Dd, dict0) ∈ news := by rw [hnews]; simp [hDd']
  obtain ⟨g, U⟩ : ∃ g, UpdF D (pob 282 Dd #[] 0) news g := by rw [hnews]; exact ⟨_, .head hne⟩
  rw [← hnews] at N
  revert X; k_fill; intro X
  have hd1 : A.depth + 20 < recursionLimit := by have : recursionLimit = 1000 := rfl; omega
  refine' star_kAt (n0 := Str.ofString "self") (va := Str.ofString "args") (kw := Str.ofString "kwargs") F X N T ?ho ?hcd ?hroom ?hb ?hvs ?hl ?_ ?c2 ?c3 ?c4 ?c5
  case ho => k_is
  case hcd => k_is
  case hroom => omega
  case hb => rfl
  case hvs => simp
  case hl => decide
  case c2 => rfl
  case c3 => rfl
  case c4 => rfl
  case c5 => decide
  intro g1 L' h1 tp dk FG F' N' X' T' l1 l2 l3
  refine ks_wpAt_execs_cons ?_
  refine ks_wpAt_Expr_any ?_
  refine ks_wpAt_MethodCall ?_
  refine ks_node (x := D) (cdD := _) (C := 282) (odx := some dict0) (ox := pob 282 Dd #[] 0) F' X' N' T' (by k_is) rfl rfl ⟨(N' _ (.tail _ (.tail _ (updF_mem U)))).1, rfl, rfl, (N' _ (.tail _ (.tail _ hDd))).1⟩ (by k_is) (by rfl) (by first | rfl | decide +kernel) (by k_is) (by k_is) (by k_is) (by k_is) (by decide) (by rfl) (by rfl) (by rfl) (by rfl) (by decide +kernel) (by first | boot_by_name | rfl | kernel_rfl) ?_
  intro so h4 F4 N4 l4
  refine supK_init (x := D) (C := 282) (odx := some dict0) (ox := pob 282 Dd #[] 0) F4 X' N4 (.head _) ⟨(N4 _ (.tail _ (.tail _ (.tail _ (updF_mem U))))).1, rfl, rfl, (N4 _ (.tail _ (.tail _ (.tail _ hDd)))).1⟩ (by k_is) (by ks_is) (by k_is) ?_
  intro q h5 F5 N5 l5
  dsimp only
  refine callWith_bnd0 (bT := "method-wrapper") (id := "dict.__init__") (x := D) (by decide) N5 (.head _) ?_
  refine call_init F5 X' N5 (.head _) (N5 _ (.tail _ (.tail _ (.tail _ (.tail _ (updF_mem U)))))).1 rfl (by k_is) ?_
  refine ks_wpAt_execs_cons ?_
  refine ks_wpAt_Expr_any ?_
  refine at_starkw ?_ (by rfl)
  refine PySem.wpAt_of_wpAny ?_
  show wpAny _ _ (eval (Expr.Name _ _) _) _ _ _
  k_steps
  refine inst_ga (x := D) (C := 282) (odx := some dict0) (ox := pob 282 Dd #[] 0) (X'.keeps F5.keep) ⟨(N5 _ (.tail _ (.tail _ (.tail _ (.tail _ (updF_mem U)))))).1, rfl, rfl, (N5 _ (.tail _ (.tail _ (.tail _ (.tail _ hDd))))).1⟩ (by k_is) (by k_is) ?_
  refine up9 hh (by show A.depth + 1 ≤ 900; omega) (by show A.units + 3 ≤ 9000; omega) (wpAny_mono (x_update (X'.keeps F5.keep) (N5 _ (.tail _ (.tail _ (.tail _ (.tail _ (updF_mem U)))))).1 (N5 _ (.tail _ (.tail _ (.tail _ (.tail _ hDd))))).1) (fun v s' hv => ?_) fun _ _ z => z)
  obtain ⟨qm, om, h6, tk6, rfl, rfl, rfl, F6, N6, hne6⟩ := made_fr F5 N5 hv
  refine ⟨⟨_, rfl⟩, ?_⟩
  refine callStarKw (P := MethP (K0 w.params) qm 142 (.ref D)) rfl (fun h hp => keeps_M (by k_is) h hp) ?_
  refine evalArgs_sk ?_
  refine wpAny_bind ?_
  k_steps
  refine wpAny_bind (wpAny_standAt (wpAny_pure ?_))
  refine wpAny_bind ?_
  have FB := F6.push dict0
  have NB := N6.push F6 dict0
  k_steps
  refine wpAny_bind (wpAny_standAt (wpAny_pure ?_))
  have hsz : NB = NB := rfl
  have hlo : (dk == sysModules) = false := by
    refine beq_eq_false_iff_ne.mpr fun e => ?_
    have h1 := (N' _ (.head _)).2.2
    have h2 := X' 1 _ rfl
    dsimp only at h1
    rw [e] at h1
    rw [show g1.get? 1 = none from h1] at h2
    cases h2
  refine ⟨dk, rfl, hlo, (NB (dk, dictOf [] 0) (by k_mem)).1, (NB _ (.head _)).1, ?_⟩
  refine star_seq (T := "tuple") (ws := [Value.ref gn]) FB NB (by k_mem) rfl rfl (.inr rfl) rfl (by show 1 ≤ sizeLine; decide) ?_
  intro hC FC NC
  refine ⟨(NC _ (.head _)).1, ⟨(NC _ (.tail _ (.head _))).1, X'.keeps FC.keep⟩, ?_⟩
  dsimp only
  refine call_meth NC (.tail _ (.head _)) ?_
  have hup : ∀ p ∈ news, p ∈ (h6.objs.size, dict0) :: (qm, ({ cls := .type "method", dict := none, data := .fields #[.ref 142, .ref D], slots := #[] } : Obj)) :: (q, bnd "method-wrapper" "dict.__init__" D) :: (so, ks_superObj 173 D 282) :: (dk, dictOf [] 0) :: (tp, tupOf [Value.ref gn]) :: news :=
    fun p hp => .tail _ (.tail _ (.tail _ (.tail _ (.tail _ (.tail _ hp)))))
  have NU : News g1 L' hC ((D, pob 282 Dd #[] 0) :: (gl ++ nws)) := fun p hp => NC p (hup p (by rw [hnews]; exact hp))
  refine upd_w FC X' NU T' (by show A.depth + 1 ≤ 800; omega) (by show A.units + 3 ≤ 8000; omega) hh hDd' hne hgn (GI.move F (fun p hp => N p (by rw [hnews]; simp [hp])) FG.keep FC (fun p hp => NU p (by simp [hp]))) hnd hkl hxl ?_
  intro h7 tk7 gs7 es ep ls kvs hb7 F7 N7 he hv
  dsimp only
  k_steps
  exact hret _ _ _ es ep ls kvs hb7 (by assumption) (by assumption) he hv
end Cin
end Mine
end
/-! part Pin -/
section
theorem Mine.startPin : True := by
  w_top off
  exact trivial
local macro_rules | `(tactic| walk_at "pad0") => `(tactic| skip)
open PySem PySem.W PyProof.Rows PySem.Calls PySem.Spec
set_option Elab.async false
set_option maxRecDepth 100000
namespace Mine
section Pin
open DS
local macro_rules | `(tactic| walk_at "getMethod ref") => `(tactic| first | refine kdl_method (knd := PySem.strKind _ _) PySem.F.slot_dict_keys PySem.F.type_dict_keys (by k_asm) (by k_mem) (by assumption) ?_ | refine kdl_method (knd := PySem.strKind _ _) PySem.F.slot_dict_items PySem.F.type_dict_items (by k_asm) (List.mem_cons_of_mem _ (List.mem_append.mpr (.inr (.head _)))) (by assumption) ?_)
local macro_rules | `(tactic| walk_at "call builtin:dict.keys") => `(tactic| (refine kdl_view_keys (knd := PySem.strKind _ _) (by k_asm) (by k_asm) (by k_mem) (by assumption) (by assumption) ?_; intro D' h' F' N' l1))
local macro_rules | `(tactic| walk_at "call type:list") => `(tactic| (refine kdl_list_viewS (by assumption) (by k_asm) (by k_asm) (by k_mem) (by k_mem) (by assumption) (by decide) ?_))
local macro_rules | `(tactic| walk_at "call builtin:dict.items") => `(tactic| refine TEnd.out ?_)
local macro_rules | `(tactic| walk_at "wpAt") => `(tactic| ((try dsimp only); ks_step "execs cons"; refine ks_wpAt_execs_cons ?_))
local macro_rules | `(tactic| walk_at "exec Assign") => `(tactic| refine TEnd.out ?_)
local macro_rules | `(tactic| k_room) => `(tactic| ktr_room)
local macro_rules | `(tactic| k_units) => `(tactic| ktr_units)
local macro_rules | `(tactic| k_all) => `(tactic| assumption)
set_option pp.deepTerms false
set_option pp.maxSteps 3000
set_option maxHeartbeats 4000000 in
theorem pinit_w {w : World} {mean : ExcName → Option Value} {mg mb : Str → Option Value} {A : Around} {s : Shared} {Q E : Value → Shared → Prop} {h₀ : Heap} {L : Addr} {m : Str → Option Value} {D Dd gn : Addr} {gl nws : List (Addr × Obj)} {xs : List (Str × UV)}
    (F : Fr h₀ L s.heap m) (X : (K0 w.params).In h₀) (N : News h₀ L s.heap ((D, pob 282 Dd #[] 0) :: (gl ++ nws))) (T : Top hd.view_39 loos mean mg mb h₀) (hdp : A.depth ≤ 600) (hun : A.units ≤ 6000) (hh : A.handled = none) (hDd' : (Dd, dict0) ∈ nws) (hne : ∀ p ∈ gl ++ nws, p.1 ≠ D) (hgn : ∀ p ∈ nws, ∀ q ∈ gl, p.1 ≠ q.1) (hgd : ∀ p ∈ gl, p.2.cls ≠ .type "dict" ∨ ∀ ep, p.2.data ≠ .dict #[] ep)
    (GI : GenIn w h₀ s gn gl xs) (hnd : (xs.map fun p => Txt.upper p.1).Nodup) (hkl : ∀ p ∈ xs, p.1.length ≤ 1000) (hxl : xs.length ≤ 1000)
    (hret : ∀ h' tk gs es ep ls kvs, (AllBare s.gens → AllBare gs) → Fr h₀ L h' m → News h₀ L h' ((D, pob 282 Dd es ep) :: (ls ++ nws)) → Ents es.toList kvs → UVals ls (xs.map fun p => (Txt.upper p.1, p.2)) kvs → Q .none { s with heap := h', toks := tk, gens := gs }) :
    wpAny (model PySem.Challenge.rw_bl0007_01.row.prog w) A (call (.ref 243) (.ref D :: [.ref gn])) Q E s := by
  obtain ⟨news, hnews⟩ : ∃ news, news = (D, pob 282 Dd #[] 0) :: (gl ++ nws) := ⟨_, rfl⟩
  have hDd : (Dd, dict0) ∈ news := by rw [hnews]; simp [hDd']
  obtain ⟨g, U⟩ : ∃ g, UpdF D (pob 282 Dd #[] 0) news g := by rw [hnews]; exact ⟨_, .head hne⟩
  rw [← hnews] at N
  revert X; k_fill; intro X
  have hd1 : A.depth + 20 < recursionLimit := by have : recursionLimit = 1000 := rfl; omega
  refine wpAny_call ?_
  refine' star_kC (n0 := Str.ofString "self") (va := Str.ofString "args") (kw := Str.ofString "kwargs") F X N T ?ho ?hcd ?hroom ?hb ?hvs ?cf ?pc ?hl0 ?hl1 ?hl2 ?_ ?c2 ?c3 ?c4
  case ho => k_is
  case hcd => k_is
  case hroom => omega
  case hb => rfl
  case hvs => simp
  case cf => exact fun _ => rfl
  case pc => exact fun _ => rfl
  case hl0 => rfl
  case hl1 => rfl
  case hl2 => rfl
  case c2 => rfl
  case c3 => rfl
  case c4 => rfl
  intro g1 L' h1 tp dk tk1 oC hoC FG F' N' X' T' l1 l2 l3
  dsimp only
  have hdk : Obj.IsDictOf (PySem.strKind PySem.Challenge.rw_bl0007_01.row.prog w) (dictOf [] 0) [] := ⟨#[], 0, ⟨rfl, rfl, rfl⟩, rfl, fun _ he => by simp at he, .nil, List.nodup_nil⟩
  have hlo : (dk == sysModules) = false := by
    refine beq_eq_false_iff_ne.mpr fun e => ?_
    have h1 := (N' _ (.tail _ (.head _))).2.2
    have h2 := X' 1 _ rfl
    dsimp only at h1
    rw [e] at h1
    rw [show g1.get? 1 = none from h1] at h2
    cases h2
  k_steps
  refine TEnd.mk ?_
  refine Assign_DictComp_DCx (K := .str) (h₀ := g1) (m := fun x => if x = Str.ofString "args" then some (Value.ref tp) else if x = Str.ofString "self" then some (Value.ref D) else none) (news := (L' + 1, oC) :: (dk, dictOf [] 0) :: (tp, tupOf [Value.ref gn]) :: news) (cl := [(Str.ofString "kwargs", L' + 1)]) (by with_unfolding_all rfl) (by rfl) (by assumption) (by rfl) (by decide) (by rfl) (by decide) (by rfl) (by rfl) (by rfl) ?_ (by intro _; rfl)
  k_steps
  rename_i hv5 F5 N5 l5 B6 c6 h6 tk6
  intro F6 N6 l6
  refine ⟨B6, [], [], rfl, ⟨_, (N6 _ (.head _)).1, rfl, _, rfl⟩, .nil, Nat.zero_le _, F6, fun q hq => N6 q (.tail _ (.tail _ hq)), DictLeavesA.mk (PySem.intKind _ _) (enc := PyData.int) (pz := fun _ => true) (kf := fun _ => 0) (d := fun _ => PyData.none) (fun a b => by first | rfl | simp [PySem.Spec.same]) (fun _ _ _ _ _ _ ha => nomatch ha) (fun _ _ _ _ _ _ ha => nomatch ha) (fun _ _ _ _ _ _ ha => nomatch ha) ?_⟩
  intro Df kvs h7 tk7 F7 N7 hDf0 hDf hfp
  have hnil : kvs = [] := by
    cases kvs with
    | nil => rfl
    | cons _ _ => cases hfp
  subst hnil
  obtain ⟨odf, esf, epf, hDfo, hDfe, hDfd, _, hDfp, _⟩ := hDf
  have hesf : esf = #[] := by
    have := hDfp.length
    simpa using this
  subst hesf
  have hDfL : Df ≠ L' := by
    intro e
    obtain ⟨ol, esl, epl, hol, hdl, _, hnl⟩ := F7.ns
    rw [← e, hDfo] at hol
    cases hol
    rw [hDfd] at hdl
    cases hdl
    have := hnl (Str.ofString "defaults")
    cases this
  have N8 : News g1 L' h7 ((Df, odf) :: (L' + 1, oC) :: (dk, dictOf [] 0) :: (tp, tupOf [Value.ref gn]) :: news) := fun q hq => by
    rcases List.mem_cons.mp hq with rfl | hq
    · exact ⟨hDfo, hDfL, hDf0⟩
    · exact N7 q hq
  dsimp only
  refine ks_wpAt_execs_cons ?_
  refine ks_wpAt_Expr_any ?_
  refine at_starkw ?_ (by rfl)
  refine node_C (x := D) (cdD := _) (C := 282) (D := 282) (odx := some dict0) (ox := pob 282 Dd #[] 0) F7 X' N8 T' (by k_is) rfl rfl ⟨(N8 _ (.tail _ (.tail _ (.tail _ (.tail _ (updF_mem U)))))).1, rfl, rfl, (N8 _ (.tail _ (.tail _ (.tail _ (.tail _ hDd))))).1⟩ (by k_is) (by rfl) (by first | rfl | decide +kernel) (by rfl) (by k_is) (by k_is) (by k_is) (by k_is) (by decide) (by rfl) (by rfl) (by rfl) (by rfl) (by decide +kernel) (by first | boot_by_name | rfl | kernel_rfl) ?_
  intro so h9 F9 N9 l9
  refine supA (x := D) (C := 282) (odx := some dict0) (ox := pob 282 Dd #[] 0) F9 X' N9 (.head _) ⟨(N9 _ (.tail _ (.tail _ (.tail _ (.tail _ (.tail _ (updF_mem U))))))).1, rfl, rfl, (N9 _ (.tail _ (.tail _ (.tail _ (.tail _ (.tail _ hDd)))))).1⟩ (by k_is) (by ks_is) (by k_is) (by decide) ?_
  intro q hA FA NA lA
  refine callStarKw (P := MethP (K0 w.params) q 62 (.ref D)) rfl (fun h hp => keeps_M (by k_is) h hp) ?_
  refine evalArgs_sk ?_
  refine wpAny_bind ?_
  k_steps
  refine wpAny_bind (wpAny_standAt (wpAny_pure ?_))
  refine wpAny_bind ?_
  have FB := FA.push dict0
  have NB := NA.push FA dict0
  k_steps
  refine wpAny_bind (wpAny_standAt (wpAny_pure ?_))
  have hsz : NB = NB := rfl
  refine ⟨dk, rfl, hlo, (NB (dk, dictOf [] 0) (by k_mem)).1, (NB _ (.head _)).1, ?_⟩
  refine star_seq (T := "tuple") (ws := [Value.ref gn]) FB NB (by k_mem) rfl rfl (.inr rfl) rfl (by show 1 ≤ sizeLine; decide) ?_
  intro hC FC NC
  refine ⟨(NC _ (.head _)).1, ⟨(NC _ (.tail _ (.head _))).1, X'.keeps FC.keep⟩, ?_⟩
  dsimp only
  refine call_meth NC (.tail _ (.head _)) ?_
  have NU : News g1 L' hC ((D, pob 282 Dd #[] 0) :: (gl ++ ((Df, odf) :: nws))) := fun p hp => by
    have hsub : ∀ p ∈ (Df, odf) :: news, News g1 L' hC [p] := fun p hp q hq => by
      rw [List.mem_singleton.mp hq]
      refine NC p ?_
      rcases List.mem_cons.mp hp with rfl | hp
      · k_mem
      · exact .tail _ (.tail _ (.tail _ (.tail _ (.tail _ (.tail _ (.tail _ hp))))))
    have : p ∈ (Df, odf) :: news := by
      rw [hnews]
      simp only [List.mem_cons, List.mem_append] at hp ⊢
      rcases hp with h | h | h | h <;> simp [h]
    exact hsub p this p (.head _)
  have hDfN := NU (Df, odf) (by simp)
  have hDfD : Df ≠ D := news_ne NU (oa := odf) (ob := pob 282 Dd #[] 0) (by simp) (.head _) (fun e => by have := hDfe.1; rw [e] at this; cases this)
  refine cinit_w FC X' NU T' (by show A.depth + 1 ≤ 700; omega) (by show A.units + 3 ≤ 7000; omega) hh (.tail _ hDd') ?hn1 ?hn2 (GI.move F (fun p hp => N p (by rw [hnews]; simp [hp])) FG.keep FC (fun p hp => NU p (by simp [hp]))) hnd hkl hxl ?_
  case hn1 =>
    intro p hp
    simp only [List.mem_cons, List.mem_append] at hp
    rcases hp with h | h | h
    · exact hne p (by simp [h])
    · rw [h]; exact hDfD
    · exact hne p (by simp [h])
  case hn2 =>
    intro p hp q hq
    rcases List.mem_cons.mp hp with h | h
    · rw [h]
      exact news_ne NU (oa := odf) (ob := q.2) (by simp) (by simp [hq]) (fun e => (hgd q hq).elim (fun z => z (by rw [← e]; exact hDfe.1)) (fun z => z epf (by rw [← e]; exact hDfd)))
    · exact hgn p h q hq
  intro hE tkE gsE es ep ls kvs hbE FE NE he hv
  dsimp only
  k_steps
  have hdo : Obj.IsDictOf (PySem.strKind PySem.Challenge.rw_bl0007_01.row.prog w) odf [] := ⟨#[], epf, hDfe, hDfd, fun _ he => by simp at he, .nil, List.nodup_nil⟩
  refine wpAny_For ?_ (fun _ => rfl)
  k_steps
  refine TEnd.mk ?_
  have hlo2 : (Df == sysModules) = false := by
    refine beq_eq_false_iff_ne.mpr fun e => ?_
    have h2 := X' 1 _ rfl
    rw [e] at hDf0
    rw [show g1.get? 1 = none from hDf0] at h2
    cases h2
  have hDfE : hE.get? Df = some odf := (NE (Df, odf) (by simp)).1
  refine items0 hDfE hDfe.1 hlo2 ?_
  have F1 := FE.push { cls := .type "dict_items", data := .fields #[.ref Df] }
  have N1 := NE.push FE { cls := .type "dict_items", data := .fields #[.ref Df] }
  dsimp only
  refine it_iter (od := odf) (es := #[]) (ep := epf) ⟨_, Heap.get?_push_size _ rfl, rfl, rfl⟩ (Heap.get?_push_of_some _ hDfE) hDfd ?_
  have F2 := F1.push (itObj Df 0 0 epf .none .none .none)
  have N2 := N1.push F1 (itObj Df 0 0 epf .none .none .none)
  dsimp only
  refine for_items0 (od := odf) (ep := epf) (news' := (D, pob 282 Dd es ep) :: (ls ++ nws)) hh F2 N2 (.head _) (.tail _ (.tail _ (.tail _ (List.mem_append.mpr (.inr (.head _)))))) hDfd ?hs1 ?hs2 fun h3 F3 N3 => ?_
  case hs1 =>
    intro p hp
    simp only [List.mem_cons, List.mem_append] at hp ⊢
    rcases hp with h | h | h <;> simp [h]
  case hs2 =>
    intro p hp
    refine Nat.ne_of_lt (Heap.lt_size (N1 p ?_).1)
    simp only [List.mem_cons, List.mem_append] at hp ⊢
    rcases hp with h | h | h <;> simp [h]
  dsimp only
  k_steps
  exact hret _ _ _ es ep ls kvs hbE (by assumption) (by assumption) he hv
end Pin
end Mine
end
/-! part Upde -/
section
theorem Mine.startUpde : True := by
  w_top off
  exact trivial
local macro_rules | `(tactic| walk_at "pad0") => `(tactic| skip)
local macro_rules | `(tactic| walk_at "pad1") => `(tactic| skip)
local macro_rules | `(tactic| walk_at "pad2") => `(tactic| skip)
local macro_rules | `(tactic| walk_at "pad3") => `(tactic| skip)
local macro_rules | `(tactic| walk_at "pad4") => `(tactic| skip)
local macro_rules | `(tactic| walk_at "pad5") => `(tactic| skip)
local macro_rules | `(tactic| walk_at "pad6") => `(tactic| skip)
local macro_rules | `(tactic| walk_at "pad7") => `(tactic| skip)
open PySem PySem.W PyProof.Rows PySem.Calls PySem.Spec
set_option Elab.async false
set_option maxRecDepth 100000
namespace Mine
section Upde
open DS
local macro_rules | `(tactic| walk_at "exec For Name Name cons nil") => `(tactic| refine TEnd.out ?_)
local macro_rules | `(tactic| walk_at "exec For") => `(tactic| refine TEnd.out ?_)
local macro_rules | `(tactic| walk_at "call builtin:hasattr") => `(tactic| refine TEnd.out ?_)
local macro_rules | `(tactic| walk_at "call builtin:dict.items") => `(tactic| refine TEnd.out ?_)
local macro_rules | `(tactic| walk_at "call builtin:iter") => `(tactic| refine TEnd.out ?_)
local macro_rules | `(tactic| walk_at "getMethod ref") => `(tactic| refine kdl_method (knd := PySem.strKind _ _) PySem.F.slot_dict_items PySem.F.type_dict_items (by k_asm) (by k_mem) (by assumption) ?_)
local macro_rules | `(tactic| walk_at "wpAt") => `(tactic| ((try dsimp only); ks_step "execs cons"; refine ks_wpAt_execs_cons ?_))
local macro_rules | `(tactic| k_room) => `(tactic| ktr_room)
local macro_rules | `(tactic| k_units) => `(tactic| ktr_units)
local macro_rules | `(tactic| k_all) => `(tactic| assumption)
local macro_rules | `(tactic| walk_at "eval Name") => `(tactic| (k_here; k_dflt (first
  | (refine' ld ?k1 ?k2 ?_; (case k1 => k_asm); (case k2 => first | exact rfl | assumption); k_whole)
  | (refine' nameX_L ?F ?v ?_ ?a ?b; (case F => k_asm); (case a => rfl); (case b => rfl); (case v => first | exact rfl | assumption); k_whole))))
local macro_rules | `(tactic| walk_at "loadName") => `(tactic| (k_here; k_dflt (refine' ldn ?k1 ?k2 ?_; (case k1 => k_asm); (case k2 => first | exact rfl | assumption); k_whole)))
set_option pp.deepTerms false
set_option pp.maxSteps 3000
set_option maxHeartbeats 4000000 in
theorem upde_w {w : World} {mean : ExcName → Option Value} {mg mb : Str → Option Value} {A : Around} {s : Shared} {R : Result → Shared → Prop} {h₀ : Heap} {L : Addr} {m : Str → Option Value} {D Dd : Addr} {news : List (Addr × Obj)}
    (F : Fr h₀ L s.heap m) (X : (K0 w.params).In h₀) (N : News h₀ L s.heap ((D, pob 282 Dd #[] 0) :: news)) (T : Top hd.view_39 loos mean mg mb h₀) (hdp : A.depth ≤ 800) (hun : A.units ≤ 8000) (hh : A.handled = none)
    (hret : ∀ h' tk, Fr h₀ L h' m → News h₀ L h' ((D, pob 282 Dd #[] 0) :: news) → R (.ok (.ret .none)) { s with heap := h', toks := tk }) :
    codeAny (model PySem.Challenge.rw_bl0007_01.row.prog w) A (.call (.ref 142) ⟨.ref D :: [], []⟩) R s := by
  revert X; k_fill; intro X
  have hd1 : A.depth + 20 < recursionLimit := by have : recursionLimit = 1000 := rfl; omega
  refine' star_kAt (n0 := Str.ofString "self") (va := Str.ofString "args") (kw := Str.ofString "kwargs") F X N T ?ho ?hcd ?hroom ?hb ?hvs ?hl ?_ ?c2 ?c3 ?c4 ?c5
  case ho => k_is
  case hcd => k_is
  case hroom => omega
  case hb => rfl
  case hvs => simp
  case hl => decide
  case c2 => rfl
  case c3 => rfl
  case c4 => rfl
  case c5 => decide
  intro g1 L' h1 tp dk FG F' N' X' T' l1 l2 l3
  refine PySem.wpAt_of_wpAny ?_
  have hlo : (dk == sysModules) = false := by
    refine beq_eq_false_iff_ne.mpr fun e => ?_
    have h1 := (N' _ (.head _)).2.2
    have h2 := X' 1 _ rfl
    dsimp only at h1
    rw [e] at h1
    rw [show g1.get? 1 = none from h1] at h2
    cases h2
  k_steps
  refine TEnd.mk ?_
  have hdk : Obj.IsDictOf (PySem.strKind PySem.Challenge.rw_bl0007_01.row.prog w) (dictOf [] 0) [] := ⟨#[], 0, ⟨rfl, rfl, rfl⟩, rfl, fun _ he => by simp at he, .nil, List.nodup_nil⟩
  rename_i D0 c0 h00 lx0 l0 h01 lx1 ml h02 lx2 h03 F3 N3
  refine for_listG (D := ml) (vs := #[.ref dk]) (nc := 0) hh rfl rfl rfl
    (fun i gs m' nw => gs = s.gens ∧ m' (Str.ofString "self") = some (.ref D) ∧ nw = (D, pob 282 Dd #[] 0) :: (ml, W.listOf #[.ref dk] 0) :: (dk, dictOf [] 0) :: news)
    ?hJm F3 (news₀ := (D, pob 282 Dd #[] 0) :: (ml, W.listOf #[.ref dk] 0) :: (dk, dictOf [] 0) :: news) ?N ⟨rfl, rfl, rfl⟩ ?read ?turn ?done (fun _ => rfl)
  case hJm =>
    rintro i gs m' nw ⟨_, _, e⟩
    subst e; simp
  case N =>
    intro p hp
    refine N3 p ?_
    simp only [List.mem_cons, List.mem_append] at hp ⊢
    rcases hp with h | h | h | h <;> simp [h]
  case read => k_steps
  case done =>
    rintro h tk gs m' nw htk ⟨e1, _, e2⟩ F5 N5
    subst e1 e2
    k_steps
    rename_i F9 N9 _ _
    refine hret _ _ F9 (fun p hp => N9 p ?_)
    simp only [List.mem_cons, List.mem_append] at hp ⊢
    rcases hp with h | h <;> simp [h]
  case turn =>
    rintro i v h tk gs m' nw I oI htk hv ⟨e1, hself, e2⟩ F5 N5 hnI
    subst e1 e2
    obtain ⟨hi, hv1⟩ := Array.getElem?_eq_some_iff.mp hv
    have hi0 : i = 0 := Nat.lt_one_iff.mp hi
    subst hi0
    have hv' : v = .ref dk := (Option.some.inj hv).symm
    subst hv'
    k_steps
    refine TEnd.mk ?_
    refine up9 hh (by show A.depth + 1 ≤ 900; omega) (by show A.units + 3 ≤ 9000; omega) (wpAny_mono (x_has_dict (X'.keeps F5.keep) (N5 _ (.tail _ (.tail _ (.tail _ (.head _))))).1) (fun v s' hv => ?_) fun _ _ z => z)
    obtain ⟨h6, tk6, rfl, rfl, k6⟩ := hv
    have F6 := F5.keeps k6
    have N6 := N5.grown k6
    k_steps
    refine TEnd.mk ?_
    refine items0 (N6 _ (.tail _ (.tail _ (.tail _ (.head _))))).1 rfl hlo ?_
    dsimp only
    have F7 := F6.push { cls := .type "dict_items", data := .fields #[.ref dk] }
    have N7 := N6.push F6 { cls := .type "dict_items", data := .fields #[.ref dk] }
    have hlv : ∀ p ∈ (I, oI) :: (D, pob 282 Dd #[] 0) :: (ml, W.listOf #[.ref dk] 0) :: (dk, dictOf [] 0) :: news, p.1 < h6.objs.size := fun p hp => Heap.lt_size (N6 p hp).1
    k_steps
    refine TEnd.mk ?_
    refine up9 hh (by show A.depth + 1 ≤ 900; omega) (by show A.units + 3 ≤ 9000; omega) (wpAny_mono (x_iter_items (X'.keeps F7.keep) (N7 _ (.head _)).1 (N7 _ (.tail _ (.tail _ (.tail _ (.tail _ (.head _)))))).1) (fun v s' hv => ?_) fun _ _ z => z)
    obtain ⟨itx, oit, h8, tk8, rfl, rfl, rfl, F8, N8, hne8⟩ := made_fr F7 N7 hv
    k_steps
    refine TEnd.mk ?_
    rename_i h9 F9 N9
    refine wpAny_For (read_nm F9 rfl rfl rfl rfl ?_) (fun _ => rfl)
    refine kcp_self (N9 _ (.head _)).1 ?_
    refine for_items0 hh F9 N9 (.head _) (.tail _ (.tail _ (.tail _ (.tail _ (.tail _ (.head _)))))) rfl (fun p hp => .tail _ (.tail _ hp)) (fun p hp => hne8 p (.tail _ hp)) fun h10 F10 N10 => ?_
    dsimp only
    refine wpAny_execs_nil ?_
    exact ⟨⟨_, _, _, _, _, rfl, F10, N10, hnI, rfl, by dsimp only; rw [if_neg (by decide), if_neg (by decide)]; exact hself, rfl⟩⟩
end Upde
end Mine
end
/-! part Cine -/
section
theorem Mine.startCine : True := by
  w_top off
  exact trivial
open PySem PySem.W PyProof.Rows PySem.Calls PySem.Spec
set_option Elab.async false
set_option maxRecDepth 100000
namespace Mine
section Cine
open DS
local macro_rules | `(tactic| k_room) => `(tactic| ktr_room)
local macro_rules | `(tactic| k_units) => `(tactic| ktr_units)
local macro_rules | `(tactic| k_all) => `(tactic| assumption)
set_option pp.deepTerms false
set_option pp.maxSteps 3000
set_option maxHeartbeats 4000000 in
theorem cinite_w {w : World} {mean : ExcName → Option Value} {mg mb : Str → Option Value} {A : Around} {s : Shared} {R : Result → Shared → Prop} {h₀ : Heap} {L : Addr} {m : Str → Option Value} {D Dd : Addr} {nws : List (Addr × Obj)}
    (F : Fr h₀ L s.heap m) (X : (K0 w.params).In h₀) (N : News h₀ L s.heap ((D, pob 282 Dd #[] 0) :: nws)) (T : Top hd.view_39 loos mean mg mb h₀) (hdp : A.depth ≤ 700) (hun : A.units ≤ 7000) (hh : A.handled = none) (hDd' : (Dd, dict0) ∈ nws) (hne : ∀ p ∈ nws, p.1 ≠ D)
    (hret : ∀ h' tk, Fr h₀ L h' m → News h₀ L h' ((D, pob 282 Dd #[] 0) :: nws) → R (.ok (.ret .none)) { s with heap := h', toks := tk }) :
    codeAny (model PySem.Challenge.rw_bl0007_01.row.prog w) A (.call (.ref 62) ⟨.ref D :: [], []⟩) R s := by
  obtain ⟨news, hnews⟩ : ∃ news, news = (D, pob 282 Dd #[] 0) :: nws := ⟨_, rfl⟩
  have hDd : (Dd, dict0) ∈ news := by rw [hnews]; simp [hDd']
  obtain ⟨g, U⟩ : ∃ g, UpdF D (pob 282 Dd #[] 0) news g := by rw [hnews]; exact ⟨_, .head hne⟩
  rw [← hnews] at N
  revert X; k_fill; intro X
  have hd1 : A.depth + 20 < recursionLimit := by have : recursionLimit = 1000 := rfl; omega
  refine' star_kAt (n0 := Str.ofString "self") (va := Str.ofString "args") (kw := Str.ofString "kwargs") F X N T ?ho ?hcd ?hroom ?hb ?hvs ?hl ?_ ?c2 ?c3 ?c4 ?c5
  case ho => k_is
  case hcd => k_is
  case hroom => omega
  case hb => rfl
  case hvs => simp
  case hl => decide
  case c2 => rfl
  case c3 => rfl
  case c4 => rfl
  case c5 => decide
  intro g1 L' h1 tp dk FG F' N' X' T' l1 l2 l3
  refine ks_wpAt_execs_cons ?_
  refine ks_wpAt_Expr_any ?_
  refine ks_wpAt_MethodCall ?_
  refine ks_node (x := D) (cdD := _) (C := 282) (odx := some dict0) (ox := pob 282 Dd #[] 0) F' X' N' T' (by k_is) rfl rfl ⟨(N' _ (.tail _ (.tail _ (updF_mem U)))).1, rfl, rfl, (N' _ (.tail _ (.tail _ hDd))).1⟩ (by k_is) (by rfl) (by first | rfl | decide +kernel) (by k_is) (by k_is) (by k_is) (by k_is) (by decide) (by rfl) (by rfl) (by rfl) (by rfl) (by decide +kernel) (by first | boot_by_name | rfl | kernel_rfl) ?_
  intro so h4 F4 N4 l4
  refine supK_init (x := D) (C := 282) (odx := some dict0) (ox := pob 282 Dd #[] 0) F4 X' N4 (.head _) ⟨(N4 _ (.tail _ (.tail _ (.tail _ (updF_mem U))))).1, rfl, rfl, (N4 _ (.tail _ (.tail _ (.tail _ hDd)))).1⟩ (by k_is) (by ks_is) (by k_is) ?_
  intro q h5 F5 N5 l5
  dsimp only
  refine callWith_bnd0 (bT := "method-wrapper") (id := "dict.__init__") (x := D) (by decide) N5 (.head _) ?_
  refine call_init F5 X' N5 (.head _) (N5 _ (.tail _ (.tail _ (.tail _ (.tail _ (updF_mem U)))))).1 rfl (by k_is) ?_
  refine ks_wpAt_execs_cons ?_
  refine ks_wpAt_Expr_any ?_
  refine at_starkw ?_ (by rfl)
  refine PySem.wpAt_of_wpAny ?_
  show wpAny _ _ (eval (Expr.Name _ _) _) _ _ _
  k_steps
  refine inst_ga (x := D) (C := 282) (odx := some dict0) (ox := pob 282 Dd #[] 0) (X'.keeps F5.keep) ⟨(N5 _ (.tail _ (.tail _ (.tail _ (.tail _ (updF_mem U)))))).1, rfl, rfl, (N5 _ (.tail _ (.tail _ (.tail _ (.tail _ hDd))))).1⟩ (by k_is) (by k_is) ?_
  refine up9 hh (by show A.depth + 1 ≤ 900; omega) (by show A.units + 3 ≤ 9000; omega) (wpAny_mono (x_update (X'.keeps F5.keep) (N5 _ (.tail _ (.tail _ (.tail _ (.tail _ (updF_mem U)))))).1 (N5 _ (.tail _ (.tail _ (.tail _ (.tail _ hDd))))).1) (fun v s' hv => ?_) fun _ _ z => z)
  obtain ⟨qm, om, h6, tk6, rfl, rfl, rfl, F6, N6, hne6⟩ := made_fr F5 N5 hv
  refine ⟨⟨_, rfl⟩, ?_⟩
  refine callStarKw (P := MethP (K0 w.params) qm 142 (.ref D)) rfl (fun h hp => keeps_M (by k_is) h hp) ?_
  refine evalArgs_sk ?_
  refine wpAny_bind ?_
  k_steps
  refine wpAny_bind (wpAny_standAt (wpAny_pure ?_))
  refine wpAny_bind ?_
  have FB := F6.push dict0
  have NB := N6.push F6 dict0
  k_steps
  refine wpAny_bind (wpAny_standAt (wpAny_pure ?_))
  have hsz : NB = NB := rfl
  have hlo : (dk == sysModules) = false := by
    refine beq_eq_false_iff_ne.mpr fun e => ?_
    have h1 := (N' _ (.head _)).2.2
    have h2 := X' 1 _ rfl
    dsimp only at h1
    rw [e] at h1
    rw [show g1.get? 1 = none from h1] at h2
    cases h2
  refine ⟨dk, rfl, hlo, (NB (dk, dictOf [] 0) (by k_mem)).1, (NB _ (.head _)).1, ?_⟩
  refine star_seq (T := "tuple") (ws := []) FB NB (by k_mem) rfl rfl (.inr rfl) rfl (by show 0 ≤ sizeLine; decide) ?_
  intro hC FC NC
  refine ⟨(NC _ (.head _)).1, ⟨(NC _ (.tail _ (.head _))).1, X'.keeps FC.keep⟩, ?_⟩
  dsimp only
  refine call_meth NC (.tail _ (.head _)) ?_
  have hup : ∀ p ∈ news, p ∈ (h6.objs.size, dict0) :: (qm, ({ cls := .type "method", dict := none, data := .fields #[.ref 142, .ref D], slots := #[] } : Obj)) :: (q, bnd "method-wrapper" "dict.__init__" D) :: (so, ks_superObj 173 D 282) :: (dk, dictOf [] 0) :: (tp, tupOf []) :: news :=
    fun p hp => .tail _ (.tail _ (.tail _ (.tail _ (.tail _ (.tail _ hp)))))
  have NU : News g1 L' hC ((D, pob 282 Dd #[] 0) :: nws) := fun p hp => NC p (hup p (by rw [hnews]; exact hp))
  refine upde_w FC X' NU T' (by show A.depth + 1 ≤ 800; omega) (by show A.units + 3 ≤ 8000; omega) hh ?_
  intro h7 tk7 F7 N7
  dsimp only
  k_steps
  exact hret _ _ (by assumption) (by assumption)
end Cine
end Mine
end
/-! part Pine -/
section
theorem Mine.startPine : True := by
  w_top off
  exact trivial
local macro_rules | `(tactic| walk_at "pad0") => `(tactic| skip)
open PySem PySem.W PyProof.Rows PySem.Calls PySem.Spec
set_option Elab.async false
set_option maxRecDepth 100000
namespace Mine
section Pine
open DS
local macro_rules | `(tactic| walk_at "getMethod ref") => `(tactic| first | refine kdl_method (knd := PySem.strKind _ _) PySem.F.slot_dict_keys PySem.F.type_dict_keys (by k_asm) (by k_mem) (by assumption) ?_ | refine kdl_method (knd := PySem.strKind _ _) PySem.F.slot_dict_items PySem.F.type_dict_items (by k_asm) (List.mem_cons_of_mem _ (.head _)) (by assumption) ?_)
local macro_rules | `(tactic| walk_at "call builtin:dict.keys") => `(tactic| (refine kdl_view_keys (knd := PySem.strKind _ _) (by k_asm) (by k_asm) (by k_mem) (by assumption) (by assumption) ?_; intro D' h' F' N' l1))
local macro_rules | `(tactic| walk_at "call type:list") => `(tactic| (refine kdl_list_viewS (by assumption) (by k_asm) (by k_asm) (by k_mem) (by k_mem) (by assumption) (by decide) ?_))
local macro_rules | `(tactic| walk_at "call builtin:dict.items") => `(tactic| refine TEnd.out ?_)
local macro_rules | `(tactic| walk_at "wpAt") => `(tactic| ((try dsimp only); ks_step "execs cons"; refine ks_wpAt_execs_cons ?_))
local macro_rules | `(tactic| walk_at "exec Assign") => `(tactic| refine TEnd.out ?_)
local macro_rules | `(tactic| k_room) => `(tactic| ktr_room)
local macro_rules | `(tactic| k_units) => `(tactic| ktr_units)
local macro_rules | `(tactic| k_all) => `(tactic| assumption)
set_option pp.deepTerms false
set_option pp.maxSteps 3000
set_option maxHeartbeats 4000000 in
theorem pinite_w {w : World} {mean : ExcName → Option Value} {mg mb : Str → Option Value} {A : Around} {s : Shared} {Q E : Value → Shared → Prop} {h₀ : Heap} {L : Addr} {m : Str → Option Value} {D Dd : Addr} {nws : List (Addr × Obj)}
    (F : Fr h₀ L s.heap m) (X : (K0 w.params).In h₀) (N : News h₀ L s.heap ((D, pob 282 Dd #[] 0) :: nws)) (T : Top hd.view_39 loos mean mg mb h₀) (hdp : A.depth ≤ 600) (hun : A.units ≤ 6000) (hh : A.handled = none) (hDd' : (Dd, dict0) ∈ nws) (hne : ∀ p ∈ nws, p.1 ≠ D)
    (hret : ∀ h' tk, Fr h₀ L h' m → News h₀ L h' ((D, pob 282 Dd #[] 0) :: nws) → Q .none { s with heap := h', toks := tk }) :
    wpAny (model PySem.Challenge.rw_bl0007_01.row.prog w) A (call (.ref 243) (.ref D :: [])) Q E s := by
  obtain ⟨news, hnews⟩ : ∃ news, news = (D, pob 282 Dd #[] 0) :: nws := ⟨_, rfl⟩
  have hDd : (Dd, dict0) ∈ news := by rw [hnews]; simp [hDd']
  obtain ⟨g, U⟩ : ∃ g, UpdF D (pob 282 Dd #[] 0) news g := by rw [hnews]; exact ⟨_, .head hne⟩
  rw [← hnews] at N
  revert X; k_fill; intro X
  have hd1 : A.depth + 20 < recursionLimit := by have : recursionLimit = 1000 := rfl; omega
  refine wpAny_call ?_
  refine' star_kC (n0 := Str.ofString "self") (va := Str.ofString "args") (kw := Str.ofString "kwargs") F X N T ?ho ?hcd ?hroom ?hb ?hvs ?cf ?pc ?hl0 ?hl1 ?hl2 ?_ ?c2 ?c3 ?c4
  case ho => k_is
  case hcd => k_is
  case hroom => omega
  case hb => rfl
  case hvs => simp
  case cf => exact fun _ => rfl
  case pc => exact fun _ => rfl
  case hl0 => rfl
  case hl1 => rfl
  case hl2 => rfl
  case c2 => rfl
  case c3 => rfl
  case c4 => rfl
  intro g1 L' h1 tp dk tk1 oC hoC FG F' N' X' T' l1 l2 l3
  dsimp only
  have hdk : Obj.IsDictOf (PySem.strKind PySem.Challenge.rw_bl0007_01.row.prog w) (dictOf [] 0) [] := ⟨#[], 0, ⟨rfl, rfl, rfl⟩, rfl, fun _ he => by simp at he, .nil, List.nodup_nil⟩
  have hlo : (dk == sysModules) = false := by
    refine beq_eq_false_iff_ne.mpr fun e => ?_
    have h1 := (N' _ (.tail _ (.head _))).2.2
    have h2 := X' 1 _ rfl
    dsimp only at h1
    rw [e] at h1
    rw [show g1.get? 1 = none from h1] at h2
    cases h2
  k_steps
  refine TEnd.mk ?_
  refine Assign_DictComp_DCx (K := .str) (h₀ := g1) (m := fun x => if x = Str.ofString "args" then some (Value.ref tp) else if x = Str.ofString "self" then some (Value.ref D) else none) (news := (L' + 1, oC) :: (dk, dictOf [] 0) :: (tp, tupOf []) :: news) (cl := [(Str.ofString "kwargs", L' + 1)]) (by with_unfolding_all rfl) (by rfl) (by assumption) (by rfl) (by decide) (by rfl) (by decide) (by rfl) (by rfl) (by rfl) ?_ (by intro _; rfl)
  k_steps
  rename_i hv5 F5 N5 l5 B6 c6 h6 tk6
  intro F6 N6 l6
  refine ⟨B6, [], [], rfl, ⟨_, (N6 _ (.head _)).1, rfl, _, rfl⟩, .nil, Nat.zero_le _, F6, fun q hq => N6 q (.tail _ (.tail _ hq)), DictLeavesA.mk (PySem.intKind _ _) (enc := PyData.int) (pz := fun _ => true) (kf := fun _ => 0) (d := fun _ => PyData.none) (fun a b => by first | rfl | simp [PySem.Spec.same]) (fun _ _ _ _ _ _ ha => nomatch ha) (fun _ _ _ _ _ _ ha => nomatch ha) (fun _ _ _ _ _ _ ha => nomatch ha) ?_⟩
  intro Df kvs h7 tk7 F7 N7 hDf0 hDf hfp
  have hnil : kvs = [] := by
    cases kvs with
    | nil => rfl
    | cons _ _ => cases hfp
  subst hnil
  obtain ⟨odf, esf, epf, hDfo, hDfe, hDfd, _, hDfp, _⟩ := hDf
  have hesf : esf = #[] := by
    have := hDfp.length
    simpa using this
  subst hesf
  have hDfL : Df ≠ L' := by
    intro e
    obtain ⟨ol, esl, epl, hol, hdl, _, hnl⟩ := F7.ns
    rw [← e, hDfo] at hol
    cases hol
    rw [hDfd] at hdl
    cases hdl
    have := hnl (Str.ofString "defaults")
    cases this
  have N8 : News g1 L' h7 ((Df, odf) :: (L' + 1, oC) :: (dk, dictOf [] 0) :: (tp, tupOf []) :: news) := fun q hq => by
    rcases List.mem_cons.mp hq with rfl | hq
    · exact ⟨hDfo, hDfL, hDf0⟩
    · exact N7 q hq
  dsimp only
  refine ks_wpAt_execs_cons ?_
  refine ks_wpAt_Expr_any ?_
  refine at_starkw ?_ (by rfl)
  refine node_C (x := D) (cdD := _) (C := 282) (D := 282) (odx := some dict0) (ox := pob 282 Dd #[] 0) F7 X' N8 T' (by k_is) rfl rfl ⟨(N8 _ (.tail _ (.tail _ (.tail _ (.tail _ (updF_mem U)))))).1, rfl, rfl, (N8 _ (.tail _ (.tail _ (.tail _ (.tail _ hDd))))).1⟩ (by k_is) (by rfl) (by first | rfl | decide +kernel) (by rfl) (by k_is) (by k_is) (by k_is) (by k_is) (by decide) (by rfl) (by rfl) (by rfl) (by rfl) (by decide +kernel) (by first | boot_by_name | rfl | kernel_rfl) ?_
  intro so h9 F9 N9 l9
  refine supA (x := D) (C := 282) (odx := some dict0) (ox := pob 282 Dd #[] 0) F9 X' N9 (.head _) ⟨(N9 _ (.tail _ (.tail _ (.tail _ (.tail _ (.tail _ (updF_mem U))))))).1, rfl, rfl, (N9 _ (.tail _ (.tail _ (.tail _ (.tail _ (.tail _ hDd)))))).1⟩ (by k_is) (by ks_is) (by k_is) (by decide) ?_
  intro q hA FA NA lA
  refine callStarKw (P := MethP (K0 w.params) q 62 (.ref D)) rfl (fun h hp => keeps_M (by k_is) h hp) ?_
  refine evalArgs_sk ?_
  refine wpAny_bind ?_
  k_steps
  refine wpAny_bind (wpAny_standAt (wpAny_pure ?_))
  refine wpAny_bind ?_
  have FB := FA.push dict0
  have NB := NA.push FA dict0
  k_steps
  refine wpAny_bind (wpAny_standAt (wpAny_pure ?_))
  have hsz : NB = NB := rfl
  refine ⟨dk, rfl, hlo, (NB (dk, dictOf [] 0) (by k_mem)).1, (NB _ (.head _)).1, ?_⟩
  refine star_seq (T := "tuple") (ws := []) FB NB (by k_mem) rfl rfl (.inr rfl) rfl (by show 0 ≤ sizeLine; decide) ?_
  intro hC FC NC
  refine ⟨(NC _ (.head _)).1, ⟨(NC _ (.tail _ (.head _))).1, X'.keeps FC.keep⟩, ?_⟩
  dsimp only
  refine call_meth NC (.tail _ (.head _)) ?_
  have NU : News g1 L' hC ((D, pob 282 Dd #[] 0) :: ((Df, odf) :: nws)) := fun p hp => by
    have hsub : ∀ p ∈ (Df, odf) :: news, News g1 L' hC [p] := fun p hp q hq => by
      rw [List.mem_singleton.mp hq]
      refine NC p ?_
      rcases List.mem_cons.mp hp with rfl | hp
      · k_mem
      · exact .tail _ (.tail _ (.tail _ (.tail _ (.tail _ (.tail _ (.tail _ hp))))))
    have : p ∈ (Df, odf) :: news := by
      rw [hnews]
      simp only [List.mem_cons, List.mem_append] at hp ⊢
      rcases hp with h | h | h <;> simp [h]
    exact hsub p this p (.head _)
  have hDfN := NU (Df, odf) (by simp)
  have hDfD : Df ≠ D := news_ne NU (oa := odf) (ob := pob 282 Dd #[] 0) (by simp) (.head _) (fun e => by have := hDfe.1; rw [e] at this; cases this)
  refine cinite_w FC X' NU T' (by show A.depth + 1 ≤ 700; omega) (by show A.units + 3 ≤ 7000; omega) hh (.tail _ hDd') ?hn1 ?_
  case hn1 =>
    intro p hp
    rcases List.mem_cons.mp hp with h | h
    · rw [h]; exact hDfD
    · exact hne p h
  intro hE tkE FE NE
  dsimp only
  k_steps
  have hdo : Obj.IsDictOf (PySem.strKind PySem.Challenge.rw_bl0007_01.row.prog w) odf [] := ⟨#[], epf, hDfe, hDfd, fun _ he => by simp at he, .nil, List.nodup_nil⟩
  refine wpAny_For ?_ (fun _ => rfl)
  k_steps
  refine TEnd.mk ?_
  have hlo2 : (Df == sysModules) = false := by
    refine beq_eq_false_iff_ne.mpr fun e => ?_
    have h2 := X' 1 _ rfl
    rw [e] at hDf0
    rw [show g1.get? 1 = none from hDf0] at h2
    cases h2
  have hDfE : hE.get? Df = some odf := (NE (Df, odf) (by simp)).1
  refine items0 hDfE hDfe.1 hlo2 ?_
  have F1 := FE.push { cls := .type "dict_items", data := .fields #[.ref Df] }
  have N1 := NE.push FE { cls := .type "dict_items", data := .fields #[.ref Df] }
  dsimp only
  refine it_iter (od := odf) (es := #[]) (ep := epf) ⟨_, Heap.get?_push_size _ rfl, rfl, rfl⟩ (Heap.get?_push_of_some _ hDfE) hDfd ?_
  have F2 := F1.push (itObj Df 0 0 epf .none .none .none)
  have N2 := N1.push F1 (itObj Df 0 0 epf .none .none .none)
  dsimp only
  refine for_items0 (od := odf) (ep := epf) (news' := (D, pob 282 Dd #[] 0) :: nws) hh F2 N2 (.head _) (.tail _ (.tail _ (.tail _ (.head _)))) hDfd ?hs1 ?hs2 fun h3 F3 N3 => ?_
  case hs1 =>
    intro p hp
    simp only [List.mem_cons, List.mem_append] at hp ⊢
    rcases hp with h | h <;> simp [h]
  case hs2 =>
    intro p hp
    refine Nat.ne_of_lt (Heap.lt_size (N1 p ?_).1)
    simp only [List.mem_cons, List.mem_append] at hp ⊢
    rcases hp with h | h <;> simp [h]
  dsimp only
  k_steps
  exact hret _ _ (by assumption) (by assumption)
end Pine
end Mine
end
/-! part Xnew -/
section
theorem Mine.startXnew : True := by
  w_top off
  exact trivial
open PySem PySem.W PyProof.Rows PySem.Calls PySem.Spec
set_option Elab.async false
set_option pp.deepTerms false
set_option pp.maxSteps 3000
set_option maxRecDepth 100000
namespace Mine
def New2 (s : Shared) (v : Value) (s' : Shared) : Prop := ∃ q d h' tk, v = .ref q ∧ s' = { s with heap := h', toks := tk } ∧ (∀ b o, s.heap.get? b = some o → h'.get? b = some o) ∧ s.heap.get? q = none ∧ s.heap.get? d = none ∧ h'.get? q = some (DS.pob 282 d #[] 0) ∧ h'.get? d = some dict0
local macro_rules | `(tactic| x_close) => `(tactic| exact ⟨_, _, _, _, rfl, rfl, mem_old (by assumption), (mem_at (by assumption) (.head _)).2, (mem_at (by assumption) (.tail _ (.head _))).2, (mem_at (by assumption) (.head _)).1, (mem_at (by assumption) (.tail _ (.head _))).1⟩)
theorem x_new0 {w : World} {E : Value → Shared → Prop} {s : Shared} (X : (K0 w.params).In s.heap) :
    wpAny (model PySem.Challenge.rw_bl0007_01.row.prog w) A9 (call (.builtin "dict.__new__") [.ref 282]) (New2 s) E s := by
  unfold call New2
  x_run
theorem x_new1 {w : World} {E : Value → Shared → Prop} {s : Shared} {gn : Addr} (X : (K0 w.params).In s.heap) :
    wpAny (model PySem.Challenge.rw_bl0007_01.row.prog w) A9 (call (.builtin "dict.__new__") [.ref 282, .ref gn]) (New2 s) E s := by
  unfold call New2
  x_run
end Mine
end
/-! part Dmk -/
section
theorem Mine.startDmk : True := by
  w_top off
  exact trivial
local macro_rules | `(tactic| walk_at "pad0") => `(tactic| skip)
set_option maxRecDepth 100000
set_option Elab.async false
open PySem PySem.W PySem.Calls PyProof.Rows PySem.Spec Builtin Builtin.ObjectAttr Builtin.Getset_descriptor
namespace Mine
/-! the call of a class of dicts: type.__call__ with dict.__new__ -/
structure MakesD (M : Model) (h : Heap) (C : Addr) : Prop where
  obj : ∃ oc od cd sl, h.get? C = some ⟨oc, od, .cls cd, sl⟩ ∧ cd.mro.isEmpty = false
  made : Looks M h (Bind.madeBy (.ref C)) (some "dict.__new__")
  self : Looks M h (isSubtype (.ref C) (.ref C)) true
  call : Looks M h (specialOf (.ref C) "__call__") (some (.builtin "type.__call__"))
  typ : Looks M h (isInstance (.ref C) (.type "type")) true
theorem makesD_of {K : Frag} {M : Model} {h : Heap} (X : K.In h) {C : Addr} {oc : Value} {od : Option Addr} {cd : ClassData} {sl : Array (Option Value)} (ho : K.lookup C = some ⟨oc, od, .cls cd, sl⟩) (e3 : (sl.toList[4]?).join = some (.builtin "dict.__new__")) (e4 : cd.mro.isEmpty = false) (e5 : cd.mro.contains (.ref C) = true)
    (e7 : specialIn K (.ref C) "__call__" = some (some (.builtin "type.__call__"))) (e8 : instIn K (.ref C) (.type "type") = some true) : MakesD M h C := by
  have hc : clsIn K C = some cd := by unfold clsIn; rw [ho]
  have hm : Looks M h (mroOf (.ref C)) cd.mro := (looks_clsIn X hc).andThen .now
  obtain ⟨c, l, hl⟩ : ∃ c l, cd.mro = c :: l := by cases q : cd.mro with | nil => rw [q] at e4; cases e4 | cons c l => exact ⟨c, l, rfl⟩
  have made : Looks M h (Bind.madeBy (.ref C)) (some "dict.__new__") := by
    intro A Q E s k q
    unfold Bind.madeBy
    refine wpAny_bind (hm A _ E s k ?_)
    rw [hl, List.forIn_cons]
    refine wpAny_bind (wpAny_bind (wpAny_bind (wpAny_bind (wpAny_loadPart (k _ _ (X _ _ ho)) (wpAny_pure ?_)))))
    dsimp only
    rw [← Array.getElem?_toList, e3]
    exact wpAny_pure (wpAny_pure (wpAny_pure q))
  refine ⟨⟨oc, od, cd, sl, X _ _ ho, e4⟩, made, looks_mroIn X ?_, looks_specialIn X e7, looks_instIn X e8⟩
  unfold mroIn; rw [hc, Option.bind_some, if_neg (by rw [e4]; decide), e5]
section
variable {prog : Program} {w : World} {A : Around} {C : Addr} {R : Result → Shared → Prop} {s : Shared}
theorem makeD_core {rest : List Value} {fI : Addr} (Y : MakesD (model prog w) s.heap C) (hi : Looks (model prog w) s.heap (typeLookup (.ref C) "__init__") (some (.ref fI)))
    (hb : ∀ self, Looks (model prog w) s.heap (bindSpecial (.ref fI) self) (.ref fI, [self]))
    (hq : wpAny (model prog w) (A.under (.builtin "type.__call__" ⟨.ref C :: rest, []⟩)) (PySem.call (.builtin "dict.__new__") (.ref C :: rest)) (fun v s' => ∃ x o, v = .ref x ∧ s'.heap.get? x = some o ∧ o.cls = .ref C ∧ (∀ b o, s.heap.get? b = some o → s'.heap.get? b = some o) ∧
      wpAny (model prog w) (A.under (.builtin "type.__call__" ⟨.ref C :: rest, []⟩)) (PySem.call (.ref fI) (.ref x :: rest)) (fun r s'' => r = .none ∧ R (.ok (.ret (.ref x))) s'') (fun e s'' => R (.error e) s'') s') (fun e s' => R (.error e) s') s) :
    codeAny (model prog w) A (.call (.ref C) ⟨rest, []⟩) R s := by
  obtain ⟨⟨oc, od, cd, sl, hC, e4⟩, made, self, call, typ⟩ := Y
  obtain ⟨h, g, d, t, os⟩ := s
  refine codeAny_of_tree ?_
  show wpAny _ _ (callAny (.ref C) _) _ _ _
  refine nd_load hC ?_
  show wpAny _ _ (callAny.viaDunder (.ref C) _) _ _ _
  unfold callAny.viaDunder
  refine wpAny_bind (call.at ?_)
  dsimp only
  rw [tc_bind]
  refine wpAny_bind (wpAny_pure (wpAny_bind (wpAny_pure ?_)))
  refine wpAny_pure (a := Fin.again (.call (.builtin "type.__call__") ⟨.ref C :: rest, []⟩)) (And.intro rfl ?_)
  refine codeAny_call_builtin_at (Code.quiet_builtin _ (by decide +kernel)) entry_typeCall (check_slot tc_kind tc_split typ (tc_args _ _ _) ?_)
  unfold Builtin.«type.__call__»
  have hm : Looks (model prog w) h (mroOf (.ref C)) cd.mro := ((Looks.ld (part := none) hC).andThen .now).andThen .now
  repeat ((fail_if_success (with_reducible show wpAny _ _ (PySem.call _ _ _) _ _ _)); (first | simp only [e4, Bool.false_eq_true, if_false] | lk))
  refine wpAny_mono hq (fun v s' hv => ?_) fun _ _ z => z
  obtain ⟨x, o, rfl, hx, hc, k, hI⟩ := hv
  have t1 : Looks (model prog w) s'.heap (typeOf (.ref x)) (.ref C) := by
    have := (Looks.ld (M := model prog w) (part := none) hx)
    refine (Looks.ld (M := model prog w) hx).andThen ?_
    rw [hc]
    exact .now
  have s1 := self.keeps k
  have i1 := hi.keeps k
  have b1 := (hb (.ref x)).keeps k
  unfold isInstance callSpecial? specialOf
  repeat ((fail_if_success (with_reducible show wpAny _ _ (PySem.call _ _ _) _ _ _)); lk)
  refine wpAny_mono hI (fun r s'' hr => ?_) fun _ _ z => z
  obtain ⟨rfl, hr⟩ := hr
  exact wpAny_pure (wpAny_pure hr)
end
theorem tc_weight (C : Addr) (rest : List Value) : Code.weight (.builtin "type.__call__" ⟨.ref C :: rest, []⟩) = 1 := by first | rfl | kernel_rfl
theorem tc_units (C : Addr) (rest : List Value) : Code.cUnits (.builtin "type.__call__" ⟨.ref C :: rest, []⟩) = 1 := by first | rfl | kernel_rfl
theorem tc_depth (A : Around) (C : Addr) (rest : List Value) : (A.under (.builtin "type.__call__" ⟨.ref C :: rest, []⟩)).depth = A.depth + 1 := by
  show A.depth + Code.weight _ = _; rw [tc_weight]
theorem tc_un (A : Around) (C : Addr) (rest : List Value) : (A.under (.builtin "type.__call__" ⟨.ref C :: rest, []⟩)).units = A.units + 1 := by
  show A.units + Code.cUnits _ = _; rw [tc_units]
section
open DS
variable {w : World} {mean : ExcName → Option Value} {mg mb : Str → Option Value} {A : Around} {s : Shared} {Q E : Value → Shared → Prop} {h₀ : Heap} {L : Addr} {m : Str → Option Value} {news : List (Addr × Obj)}
theorem new2_fr {v : Value} {s' : Shared} (F : Fr h₀ L s.heap m) (N : News h₀ L s.heap news) (h : New2 s v s') :
    ∃ D Dd h' tk, v = .ref D ∧ s' = { s with heap := h', toks := tk } ∧ (∀ b o, s.heap.get? b = some o → h'.get? b = some o) ∧ Fr h₀ L h' m ∧ News h₀ L h' ((D, pob 282 Dd #[] 0) :: (Dd, dict0) :: news) ∧ (∀ p ∈ (Dd, dict0) :: news, p.1 ≠ D) ∧ (∀ p ∈ news, p.1 ≠ Dd) := by
  obtain ⟨q, d, h', tk, rfl, rfl, k, hn, hn2, hq, hd⟩ := h
  have fresh : ∀ a o, s.heap.get? a = none → h'.get? a = some o → a ≠ L ∧ h₀.get? a = none := fun a o e _ => by
    constructor
    · intro q
      obtain ⟨ol, _, _, hol, _⟩ := F.ns
      rw [← q, e] at hol; cases hol
    · cases z : h₀.get? a with
      | none => rfl
      | some o' => have := F.keep a o' z; rw [e] at this; cases this
  have hne : ∀ a, s.heap.get? a = none → ∀ p ∈ news, p.1 ≠ a := fun a e p hm q => by
    have := (N p hm).1
    rw [q, e] at this; cases this
  refine ⟨q, d, h', tk, rfl, rfl, k, F.keeps k, ?_, ?_, hne d hn2⟩
  · intro p hm
    rcases List.mem_cons.mp hm with rfl | hm
    · exact ⟨hq, fresh _ _ hn hq⟩
    · rcases List.mem_cons.mp hm with rfl | hm
      · exact ⟨hd, fresh _ _ hn2 hd⟩
      · exact ⟨k _ _ (N p hm).1, (N p hm).2⟩
  · intro p hm
    rcases List.mem_cons.mp hm with rfl | hm
    · intro e
      dsimp only at e
      rw [e, hq] at hd
      cases hd
    · exact hne q hn p hm
set_option maxHeartbeats 4000000 in
/-- Parameters() -/
theorem pnew_w (F : Fr h₀ L s.heap m) (X : (K0 w.params).In h₀) (N : News h₀ L s.heap news) (T : Top hd.view_39 loos mean mg mb h₀) (hdp : A.depth ≤ 500) (hun : A.units ≤ 5000) (hh : A.handled = none)
    (hret : ∀ D Dd h' tk, Fr h₀ L h' m → News h₀ L h' ((D, pob 282 Dd #[] 0) :: (Dd, dict0) :: news) → (∀ p ∈ (Dd, dict0) :: news, p.1 ≠ D) → (∀ p ∈ news, p.1 ≠ Dd) → Q (.ref D) { s with heap := h', toks := tk }) :
    wpAny (model PySem.Challenge.rw_bl0007_01.row.prog w) A (PySem.call (.ref 282) []) Q E s := by
  revert X; k_fill; intro X
  refine wpAny_call ?_
  have X1 := X.keeps F.keep
  refine makeD_core (fI := 243) (makesD_of X1 (by k_is) (by rfl) (by rfl) (by rfl) (by k_is) (by k_is)) (looks_findIn X1 (by k_is)) (fun self => bind_fn X1 self (by k_is)) ?_
  refine up9 hh (by rw [tc_depth]; omega) (by rw [tc_un]; omega) (wpAny_mono (x_new0 X1) (fun v s' hv => ?_) fun _ _ z => z)
  obtain ⟨D, Dd, h', tk, rfl, rfl, k, F1, N1, hne, hne2⟩ := new2_fr F N hv
  refine ⟨D, _, rfl, (N1 _ (.head _)).1, rfl, k, ?_⟩
  refine pinite_w F1 X N1 T (by rw [tc_depth]; omega) (by rw [tc_un]; omega) hh (.head _) hne ?_
  intro h2 tk2 F2 N2
  exact ⟨rfl, hret _ _ _ _ F2 N2 hne hne2⟩
set_option maxHeartbeats 4000000 in
/-- Parameters(generator) -/
theorem pgen_w {gn : Addr} {gl : List (Addr × Obj)} {xs : List (Str × UV)} (F : Fr h₀ L s.heap m) (X : (K0 w.params).In h₀) (N : News h₀ L s.heap (gl ++ news)) (T : Top hd.view_39 loos mean mg mb h₀) (hdp : A.depth ≤ 500) (hun : A.units ≤ 5000) (hh : A.handled = none)
    (hgn : ∀ p ∈ news, ∀ q ∈ gl, p.1 ≠ q.1) (hgd : ∀ p ∈ gl, p.2.cls ≠ .type "dict" ∨ ∀ ep, p.2.data ≠ .dict #[] ep) (GI : GenIn w h₀ s gn gl xs) (hnd : (xs.map fun p => Txt.upper p.1).Nodup) (hkl : ∀ p ∈ xs, p.1.length ≤ 1000) (hxl : xs.length ≤ 1000)
    (hret : ∀ D Dd h' tk gs es ep ls kvs, (AllBare s.gens → AllBare gs) → Fr h₀ L h' m → News h₀ L h' ((D, pob 282 Dd es ep) :: (Dd, dict0) :: (ls ++ news)) → (∀ p ∈ (Dd, dict0) :: news, p.1 ≠ D) → Ents es.toList kvs → UVals ls (xs.map fun p => (Txt.upper p.1, p.2)) kvs → Q (.ref D) { s with heap := h', toks := tk, gens := gs }) :
    wpAny (model PySem.Challenge.rw_bl0007_01.row.prog w) A (PySem.call (.ref 282) [.ref gn]) Q E s := by
  revert X; k_fill; intro X
  refine wpAny_call ?_
  have X1 := X.keeps F.keep
  refine makeD_core (fI := 243) (makesD_of X1 (by k_is) (by rfl) (by rfl) (by rfl) (by k_is) (by k_is)) (looks_findIn X1 (by k_is)) (fun self => bind_fn X1 self (by k_is)) ?_
  refine up9 hh (by rw [tc_depth]; omega) (by rw [tc_un]; omega) (wpAny_mono (x_new1 X1) (fun v s' hv => ?_) fun _ _ z => z)
  obtain ⟨D, Dd, h', tk, rfl, rfl, k, F1, N1, hne, hne2⟩ := new2_fr F N hv
  refine ⟨D, _, rfl, (N1 _ (.head _)).1, rfl, k, ?_⟩
  have N2 : News h₀ L h' ((D, pob 282 Dd #[] 0) :: (gl ++ ((Dd, dict0) :: news))) := fun p hp => N1 p (by
    simp only [List.mem_cons, List.mem_append] at hp ⊢
    rcases hp with h | h | h | h <;> simp [h])
  refine pinit_w F1 X N2 T (by rw [tc_depth]; omega) (by rw [tc_un]; omega) hh (.head _) ?h1 ?h2 hgd (GI.move F (fun p hp => N p (List.mem_append.mpr (.inl hp))) (fun _ _ e => e) F1 (fun p hp => N2 p (by simp [hp]))) hnd hkl hxl ?_
  case h1 =>
    intro p hp
    refine hne p ?_
    simp only [List.mem_cons, List.mem_append] at hp ⊢
    rcases hp with h | h | h <;> simp [h]
  case h2 =>
    intro p hp q hq
    rcases List.mem_cons.mp hp with rfl | hp
    · exact fun e => hne2 q (List.mem_append.mpr (.inl hq)) e.symm
    · exact hgn p hp q hq
  intro h3 tk3 gs es ep ls kvs hb F3 N3 he hv
  refine ⟨rfl, hret D Dd h3 tk3 gs es ep ls kvs hb F3 (fun p hp => N3 p ?_) (fun p hp => hne p ?_) he hv⟩
  · simp only [List.mem_cons, List.mem_append] at hp ⊢
    rcases hp with h | h | h | h <;> simp [h]
  · simp only [List.mem_cons, List.mem_append] at hp ⊢
    rcases hp with h | h <;> simp [h]
end
end Mine
end
/-! part Qs -/
section
theorem Mine.startQs : True := by
  w_top off
  exact trivial
local macro_rules | `(tactic| walk_at "pad0") => `(tactic| skip)
local macro_rules | `(tactic| walk_at "pad1") => `(tactic| skip)
open PySem PySem.W PyProof.Rows PySem.Calls PySem.Spec
set_option Elab.async false
namespace Mine
section Qs
/-- q_split over codes: what is left, in quotes or not, the piece at hand, the pieces, the splits -/
def qs (sep : Nat) (mx : Int) : List Nat → Bool → List Nat → List (List Nat) → Int → List (List Nat)
  | [], _, _, res, _ => res
  | c :: rest, inq, cur, res, k =>
    let inq' := if c = 34 then !inq else inq
    let hit := !inq' && c == sep
    let cur' := if hit then [] else cur ++ [c]
    let res' := if hit then res ++ [cur] else res
    let k' := if hit then k + 1 else k
    if rest = [] then res' ++ [cur'] else if k' = mx then res' ++ [cur' ++ rest] else qs sep mx rest inq' cur' res' k'

theorem split_at {x : List Nat} {i cur ci : Nat} (h : x[i]? = some ci) (hc : cur ≤ i) : x.drop cur = (x.take i).drop cur ++ ci :: x.drop (i + 1) := by
  rw [← drop_cons h]
  conv => lhs; rw [← List.take_append_drop i x]
  rw [List.drop_append_of_le_length]
  have := (List.getElem?_eq_some_iff.mp h).1
  simp; omega
theorem qs_step {x : List Nat} {i cur ci c0 : Nat} {mx k : Int} {inq q : Bool} {res : List (List Nat)} (h : x[i]? = some ci) (hc : cur ≤ i) (hq : (if ci = 34 then !inq else inq) = q) :
    qs c0 mx (x.drop i) inq ((x.take i).drop cur) res k =
      if x.drop (i + 1) = [] then (if (!q && ci == c0) = true then res ++ [(x.take i).drop cur] else res) ++ [x.drop (if (!q && ci == c0) = true then i + 1 else cur)]
      else if (if (!q && ci == c0) = true then k + 1 else k) = mx then (if (!q && ci == c0) = true then res ++ [(x.take i).drop cur] else res) ++ [x.drop (if (!q && ci == c0) = true then i + 1 else cur)]
      else qs c0 mx (x.drop (i + 1)) q ((x.take (i + 1)).drop (if (!q && ci == c0) = true then i + 1 else cur)) (if (!q && ci == c0) = true then res ++ [(x.take i).drop cur] else res) (if (!q && ci == c0) = true then k + 1 else k) := by
  rw [drop_cons h, qs]
  simp only [hq]
  have hsp := split_at h hc
  have hlen : i < x.length := (List.getElem?_eq_some_iff.mp h).1
  cases hh : (!q && ci == c0) with
  | true =>
    simp only [if_true, List.nil_append]
    have e : (x.take (i + 1)).drop (i + 1) = [] := by rw [List.drop_eq_nil_iff]; simp; omega
    rw [e]
    by_cases hn : x.drop (i + 1) = []
    · simp [hn]
    · simp [hn]
  | false =>
    simp only [Bool.false_eq_true, if_false]
    have e : (x.take (i + 1)).drop cur = (x.take i).drop cur ++ [ci] := by
      rw [take_snoc h, List.drop_append_of_le_length]
      simp; omega
    rw [e, hsp]
    by_cases hn : x.drop (i + 1) = []
    · simp [hn]
    · simp [hn]

local macro_rules | `(tactic| k_room) => `(tactic| ktr_room)
local macro_rules | `(tactic| k_units) => `(tactic| ktr_units)
local macro_rules | `(tactic| k_all) => `(tactic| assumption)
local macro_rules | `(tactic| walk_at "eval Name") => `(tactic| (k_here; k_dflt (first
  | (refine' ld ?k1 ?k2 ?_; (case k1 => k_asm); (case k2 => first | exact rfl | assumption); k_whole)
  | (refine' nameX_L ?F ?v ?_ ?a ?b; (case F => k_asm); (case a => rfl); (case b => rfl); (case v => first | exact rfl | assumption); k_whole))))
local macro_rules | `(tactic| walk_at "loadName") => `(tactic| (k_here; k_dflt (refine' ldn ?k1 ?k2 ?_; (case k1 => k_asm); (case k2 => first | exact rfl | assumption); k_whole)))

/-- the loop's names -/
structure QM (m : Str → Option Value) (x : Str) (c0 : Nat) (mx : Int) (l : Addr) (cur : Nat) (vq : Value) (k : Int) : Prop where
  st : ∃ t, m (Str.ofString "st") = some (.str x t)
  sep : ∃ t, m (Str.ofString "sep") = some (.str (S [c0]) t)
  mx : ∃ t, m (Str.ofString "maxsplit") = some (.int mx t)
  res : m (Str.ofString "result") = some (.ref l)
  cur : ∃ t, m (Str.ofString "cursor") = some (.int cur t)
  len : ∃ t, m (Str.ofString "length") = some (.int x.length t)
  inq : m (Str.ofString "inquote") = some vq
  spl : ∃ t, m (Str.ofString "splits") = some (.int k t)

def Boolish (v : Value) (b : Bool) : Prop := v = .bool b ∨ (b = false ∧ ∃ t, v = .int 0 t)

set_option pp.deepTerms false
set_option pp.maxSteps 3000
set_option maxRecDepth 100000 in
set_option maxHeartbeats 4000000 in
theorem qsplit_w {w : World} {mean : ExcName → Option Value} {mg mb : Str → Option Value}
    {dp un : Nat} {gd : Option (List Code)} {cn : Str} {nms : List (Str × NameKind)} {ig ic : Bool} {mo : List (Str × Const)} {a : Addr} {ccd : Value} {cl : List (Str × Addr)} {outer : List Env} {A₀ : Around} {base h₀ : Heap} {L : Addr} {m : Str → Option Value} {s : Shared}
    {Q E : Value → Shared → Prop} {news : List (Addr × Obj)} {args : Args} {x : List Nat} {y : Str} {t ts tm : Tok} {c0 : Nat} {mx : Int}
    (B : Below A₀ base outer h₀) (F : Fr h₀ L s.heap m) (X : (K0 w.params).In h₀) (N : News h₀ L s.heap news) (T : Top hd.view_39 loos mean mg mb h₀)
    (hb : BindsTo s (fdAt (K0 w.params) 229) args [(Str.ofString "st", .str y t), (Str.ofString "sep", .str (S [c0]) ts), (Str.ofString "maxsplit", .int mx tm)])
    (hy : y = S x) (hx : y.length ≤ 1000) (hmx : mx ≠ 0)
    (hd1 : dp + 20 < recursionLimit) (hu1 : un + 400 < cLine)
    (hret : ∀ l h' tk' (vs : List Value) n, StrsAre vs ((qs c0 mx x false [] [] 0).map S) → (∀ p ∈ news, p.1 < l) → Fr h₀ L h' m → News h₀ L h' ((l, listOf vs.toArray n) :: news) → Q (.ref l) { s with heap := h', toks := tk' }) :
    codeAny (model PySem.Challenge.rw_bl0007_01.row.prog w) (cal dp un gd cn nms ig ic mo L a ccd cl outer) (.call (.ref 229) args) (fun r s' => match r with | .ok (.ret v) => Q v s' | .ok _ => False | .error e => E e s') s := by
  revert X; k_fill; intro X
  k_dflt (refine' code_def (binds := [(Str.ofString "st", .str y t), (Str.ofString "sep", .str (S [c0]) ts), (Str.ofString "maxsplit", .int mx tm)]) ?k1 ?k2 ?k3 ?k4 ?k5 ?kA ?kF ?kK ?k6 ?k7 ?k8 ?k9 ?kB ?_ ?c2 ?c3 ?c4 ?c5; (case kA => exact rfl); (case kF => exact rfl); (case kK => exact rfl); (case k1 => k_asm); (case k2 => k_asm); (case k3 => k_asm); (case k4 => k_asm); (case k5 => k_asm); (case k6 => k_is); (case k7 => k_is); (case k8 => k_room); (case k9 => exact hb); (case c5 => decide); (case kB => exact locs rfl); (case c2 => exact rfl); (case c3 => exact rfl); (case c4 => exact rfl); k_whole; intro g' L' h' FG' F' N' B' X' T'; (try dsimp only); (try k_lift B'); (try k_fold))
  k_steps
  · exact absurd (by assumption) hmx
  · rename_i S0
    refine pick_head (o := listOf #[] 0) (r := news) (by assumption) fun l hl => ?_
    subst hl
    have hlt : ∀ p ∈ news, p.1 < l := by assumption
    have hnl : ∀ p ∈ news, p.1 ≠ l := fun p hp => Nat.ne_of_lt (hlt p hp)
    have hyx : ∀ i c, (signs y)[i]? = some c → ∃ n, x[i]? = some n ∧ c = S [n] := fun i c h => by subst hy; exact signs_S h
    have h34 : Str.ofString "\"" = S [34] := by decide +kernel
    have hyl : y.length = x.length := by rw [hy, S_len]
    refine PairSrcL.at S0 _ rfl _ _ _ _ (fun i m₁ news₁ => ∃ (inq : Bool) (vq : Value) (cur : Nat) (k : Int) (res : List (List Nat)) (vs : List Value) (n : Nat),
      Boolish vq inq ∧ StrsAre vs (res.map S) ∧ cur ≤ i ∧ 0 ≤ k ∧ k ≤ i ∧ vs.toArray.size ≤ i ∧ news₁ = (l, listOf vs.toArray n) :: news ∧ QM m₁ y c0 mx l cur vq k ∧
      (i < x.length ∨ x = []) ∧ qs c0 mx (x.drop i) inq ((x.take i).drop cur) res k = qs c0 mx x false [] [] 0) ?_ ?_ ?_
    · exact ⟨false, _, 0, 0, [], [], 0, .inr ⟨rfl, _, rfl⟩, .nil, Nat.le_refl _, Int.le_refl _, Int.le_refl _, Nat.zero_le _, rfl, ⟨⟨_, rfl⟩, ⟨_, rfl⟩, ⟨_, rfl⟩, rfl, ⟨_, rfl⟩, ⟨_, rfl⟩, rfl, ⟨_, rfl⟩⟩, by cases x <;> simp, rfl⟩
    · rintro i c t2 v m₁ news₁ s₁ own ⟨h1, tk1, rfl⟩ ha ⟨u, rfl⟩ ⟨inq, vq, cur, k, res, vs, n, hvq, hvs, hcur, hk0, hki, hsz, rfl, hM, hlast, hqs⟩ hadr hown F₁ N₁
      obtain ⟨ci, hci, rfl⟩ := hyx i c ha
      have hil : i < x.length := (List.getElem?_eq_some_iff.mp hci).1
      have hR : ∀ p ∈ news ++ own, p.1 ≠ l := by
        intro p hp
        rcases List.mem_append.mp hp with hp | hp
        · exact hnl p hp
        · exact hown p hp _ (.head _)
      have N₂ : News g' L' h1 ((l, listOf vs.toArray n) :: (news ++ own)) := news_perm N₁ (by intro p hp; simp only [List.mem_cons, List.mem_append] at hp ⊢; rcases hp with hp | hp | hp <;> simp [hp])
      clear N₁
      dsimp only at F₁
      obtain ⟨⟨u1, e1⟩, ⟨u2, e2⟩, ⟨u3, e3⟩, e4, ⟨u5, e5⟩, ⟨u6, e6⟩, e7, ⟨u8, e8⟩⟩ := hM
      refine tend ?_
      have hret' : ∀ (vs : List Value) (y : Str) (tok : Tok) (n : Nat) h' tk', StrsAre (vs ++ [.str y tok]) ((qs c0 mx x false [] [] 0).map S) → Fr h₀ L h' m → News h₀ L h' ((l, listOf (vs.toArray.push (.str y tok)) n) :: (news ++ own)) → Q (.ref l) { s with heap := h', toks := tk' } := by
        intro vs y tok n h' tk' a1 a2 a3
        refine hret l h' tk' _ n a1 hlt a2 (news_perm a3 ?_)
        intro p hp
        rw [← List.push_toArray] at hp
        simp only [List.mem_cons, List.mem_append] at hp ⊢
        rcases hp with hp | hp
        · exact .inl hp
        · exact .inr (.inl hp)
      -- the quotes
      refine execs_cut (h₀ := g') (L := L') (fun m' news' => news' = (l, listOf vs.toArray n) :: (news ++ own) ∧ ∃ vq', Boolish vq' (if ci = 34 then !inq else inq) ∧ QM m' y c0 mx l cur vq' k ∧ (∃ t, m' (Str.ofString "i") = some (.int i t)) ∧ (∃ t, m' (Str.ofString "ch") = some (.str (S [ci]) t))) ?_ ?_
      · rcases hvq with rfl | ⟨rfl, t0, rfl⟩
        all_goals k_steps
        · have hc : ci = 34 := by have : S [ci] = S [34] := by rw [← h34]; exact eq_of_beq (by assumption)
                                  simpa using S_inj this
          refine mid_intro (by assumption) (by assumption) ?_; exact ⟨rfl, _, .inl (by simp [hc]), ⟨⟨_, e1⟩, ⟨_, e2⟩, ⟨_, e3⟩, e4, ⟨_, e5⟩, ⟨_, e6⟩, rfl, ⟨_, e8⟩⟩, ⟨_, rfl⟩, ⟨_, rfl⟩⟩
        · have hc : ci ≠ 34 := by rintro rfl
                                  have : (S [34] == Str.ofString "\"") = false := by assumption
                                  simp [h34] at this
          refine mid_intro (by assumption) (by assumption) ?_; exact ⟨rfl, _, .inl (by simp [hc]), ⟨⟨_, e1⟩, ⟨_, e2⟩, ⟨_, e3⟩, e4, ⟨_, e5⟩, ⟨_, e6⟩, e7, ⟨_, e8⟩⟩, ⟨_, rfl⟩, ⟨_, rfl⟩⟩
        · have hc : ci = 34 := by have : S [ci] = S [34] := by rw [← h34]; exact eq_of_beq (by assumption)
                                  simpa using S_inj this
          refine mid_intro (by assumption) (by assumption) ?_; exact ⟨rfl, _, .inl (by simp [hc]), ⟨⟨_, e1⟩, ⟨_, e2⟩, ⟨_, e3⟩, e4, ⟨_, e5⟩, ⟨_, e6⟩, rfl, ⟨_, e8⟩⟩, ⟨_, rfl⟩, ⟨_, rfl⟩⟩
        · have hc : ci ≠ 34 := by rintro rfl
                                  have : (S [34] == Str.ofString "\"") = false := by assumption
                                  simp [h34] at this
          refine mid_intro (by assumption) (by assumption) ?_; exact ⟨rfl, _, .inr ⟨by simp [hc], _, rfl⟩, ⟨⟨_, e1⟩, ⟨_, e2⟩, ⟨_, e3⟩, e4, ⟨_, e5⟩, ⟨_, e6⟩, e7, ⟨_, e8⟩⟩, ⟨_, rfl⟩, ⟨_, rfl⟩⟩
      · rintro h2 tk2 m2 news2 F2 N2 ⟨rfl, vq', hvq', ⟨⟨u1, e1⟩, ⟨u2, e2⟩, ⟨u3, e3⟩, e4, ⟨u5, e5⟩, ⟨u6, e6⟩, e7, ⟨u8, e8⟩⟩, ⟨u9, e9⟩, ⟨u10, e10⟩⟩
        clear F₁ N₂
        generalize hq : (if ci = 34 then !inq else inq) = q at hvq'
        have hsz2 : vs.toArray.size ≤ 1000 := by omega
        -- the separator
        refine execs_cut (h₀ := g') (L := L') (fun m' news' => ∃ vs' n', news' = (l, listOf vs'.toArray n') :: (news ++ own) ∧ StrsAre vs' ((if (!q && ci == c0) = true then res ++ [(x.take i).drop cur] else res).map S) ∧ vs'.toArray.size ≤ i + 1 ∧
          QM m' y c0 mx l (if (!q && ci == c0) = true then i + 1 else cur) vq' (if (!q && ci == c0) = true then k + 1 else k) ∧ (∃ t, m' (Str.ofString "i") = some (.int i t))) ?_ ?_
        · rcases hvq' with rfl | ⟨rfl, t0, rfl⟩
          all_goals k_steps
          · have hh : (!q && ci == c0) = false := by simp [(by assumption : q = true)]
            refine mid_intro (by assumption) (by assumption) ?_
            simp only [hh, Bool.false_eq_true, if_false]
            exact ⟨vs, n, rfl, hvs, by omega, ⟨⟨_, e1⟩, ⟨_, e2⟩, ⟨_, e3⟩, e4, ⟨_, e5⟩, ⟨_, e6⟩, e7, ⟨_, e8⟩⟩, ⟨_, e9⟩⟩
          · have hcc : ci = c0 := by simpa using S_inj (eq_of_beq (by assumption : (S [ci] == S [c0]) = true))
            have hh : (!q && ci == c0) = true := by simp [(by assumption : q = false), hcc]
            refine mid_intro (by assumption) (by assumption) ?_
            simp only [hh, if_true]
            refine ⟨vs ++ [.str (PySem.Txt.slice y (some (cur : Int)) (some (i : Int))) _], _, by rw [List.push_toArray], ?_, by simp at hsz ⊢; omega, ⟨⟨_, e1⟩, ⟨_, e2⟩, ⟨_, e3⟩, e4, ⟨_, rfl⟩, ⟨_, e6⟩, e7, ⟨_, rfl⟩⟩, ⟨_, e9⟩⟩
            rw [hy, S_slice hcur (by omega), List.map_append]
            exact strsAre_snoc _ _ hvs
          · have hcc : ci ≠ c0 := fun e => by have := (by assumption : (S [ci] == S [c0]) = false); simp [e] at this
            have hh : (!q && ci == c0) = false := by simp [hcc]
            refine mid_intro (by assumption) (by assumption) ?_
            simp only [hh, Bool.false_eq_true, if_false]
            exact ⟨vs, n, rfl, hvs, by omega, ⟨⟨_, e1⟩, ⟨_, e2⟩, ⟨_, e3⟩, e4, ⟨_, e5⟩, ⟨_, e6⟩, e7, ⟨_, e8⟩⟩, ⟨_, e9⟩⟩
          · have hcc : ci = c0 := by simpa using S_inj (eq_of_beq (by assumption : (S [ci] == S [c0]) = true))
            have hh : (!false && ci == c0) = true := by simp [hcc]
            refine mid_intro (by assumption) (by assumption) ?_
            simp only [hh, if_true]
            refine ⟨vs ++ [.str (PySem.Txt.slice y (some (cur : Int)) (some (i : Int))) _], _, by rw [List.push_toArray], ?_, by simp at hsz ⊢; omega, ⟨⟨_, e1⟩, ⟨_, e2⟩, ⟨_, e3⟩, e4, ⟨_, rfl⟩, ⟨_, e6⟩, e7, ⟨_, rfl⟩⟩, ⟨_, e9⟩⟩
            rw [hy, S_slice hcur (by omega), List.map_append]
            exact strsAre_snoc _ _ hvs
          · have hcc : ci ≠ c0 := fun e => by have := (by assumption : (S [ci] == S [c0]) = false); simp [e] at this
            have hh : (!false && ci == c0) = false := by simp [hcc]
            refine mid_intro (by assumption) (by assumption) ?_
            simp only [hh, Bool.false_eq_true, if_false]
            exact ⟨vs, n, rfl, hvs, by omega, ⟨⟨_, e1⟩, ⟨_, e2⟩, ⟨_, e3⟩, e4, ⟨_, e5⟩, ⟨_, e6⟩, e7, ⟨_, e8⟩⟩, ⟨_, e9⟩⟩
        · rintro h3 tk3 m3 news3 F3 N3 ⟨vs', n', rfl, hvs', hsz', ⟨⟨u1, e1⟩, ⟨u2, e2⟩, ⟨u3, e3⟩, e4, ⟨u5, e5⟩, ⟨u6, e6⟩, e7, ⟨u8, e8⟩⟩, ⟨u9, e9⟩⟩
          clear F2 N2
          have hstep := qs_step (mx := mx) (c0 := c0) (inq := inq) (q := q) (res := res) (k := k) hci hcur hq
          rw [hqs] at hstep
          revert hvs' hstep e5 e8
          generalize (if (!q && ci == c0) = true then res ++ [(x.take i).drop cur] else res) = res'
          generalize hkk : (if (!q && ci == c0) = true then k + 1 else k) = k'
          generalize hcc : (if (!q && ci == c0) = true then i + 1 else cur) = cur'
          intro hvs' e5 e8 hstep
          have hk0' : 0 ≤ k' ∧ k' ≤ i + 1 := by subst hkk; split <;> omega
          have hcu' : cur' ≤ i + 1 := by subst hcc; split <;> omega
          clear hkk hcc
          k_steps
          · refine TEnd.mk ?_
            dsimp only [LoopStep3]
            k_steps
            rw [if_pos (by rw [List.drop_eq_nil_iff]; omega)] at hstep
            refine hret' vs' _ _ _ _ _ ?_ (by assumption) (by assumption)
            rw [hstep, hy, S_slice_from (by omega), List.map_append]
            exact strsAre_snoc _ _ hvs'
          · refine TEnd.mk ?_
            dsimp only [LoopStep3]
            k_steps
            rw [if_neg (by rw [List.drop_eq_nil_iff]; omega), if_pos (by assumption)] at hstep
            refine hret' vs' _ _ _ _ _ ?_ (by assumption) (by assumption)
            rw [hstep, hy, S_slice_from (by omega), List.map_append]
            exact strsAre_snoc _ _ hvs'
          · refine TEnd.mk ?_
            rw [if_neg (by rw [List.drop_eq_nil_iff]; omega), if_neg (by assumption)] at hstep
            refine LoopStep2.intro (news₂ := (l, listOf vs'.toArray n') :: news) (by assumption) (news_perm (by assumption) ?_) rfl ⟨q, vq', cur', k', res', vs', n', hvq', hvs', hcu', hk0'.1, by omega, hsz', rfl, ⟨⟨_, e1⟩, ⟨_, e2⟩, ⟨_, e3⟩, e4, ⟨_, e5⟩, ⟨_, e6⟩, e7, ⟨_, e8⟩⟩, .inl (by omega), hstep.symm⟩
            intro p hp
            simp only [List.mem_cons, List.mem_append] at hp ⊢
            rcases hp with hp | hp | hp
            · exact .inr (.inr hp)
            · exact .inl hp
            · exact .inr (.inl hp)
    · rintro h' tk m' news' F' N' hadr ⟨inq, vq, cur, k, res, vs, n, hvq, hvs, hcur, hk0, hki, hsz, rfl, hM, hlast, hqs⟩
      obtain ⟨⟨u1, e1⟩, ⟨u2, e2⟩, ⟨u3, e3⟩, e4, ⟨u5, e5⟩, ⟨u6, e6⟩, e7, ⟨u8, e8⟩⟩ := hM
      have hnil : x = [] := by
        rcases hlast with hl2 | hl2
        · rw [signs_length] at hl2; omega
        · exact hl2
      k_steps
      refine hret l _ _ vs n ?_ (by assumption) (by assumption) (by assumption)
      subst hnil
      simp only [List.drop_nil, qs] at hqs
      rw [← hqs]
      exact hvs
end Qs
end Mine
end
/-! part Qs2 -/
section
theorem Mine.startQs2 : True := by
  w_top off
  exact trivial
open PySem PySem.W PyProof.Rows PySem.Calls PySem.Spec
set_option Elab.async false
set_option maxRecDepth 100000
namespace Mine
theorem append_l {prog : Program} {w : World} {A : Around} {E : Value → Shared → Prop} {s : Shared} {h₀ : Heap} {L D : Addr} {m : Str → Option Value} {news : List (Addr × Obj)} {its : Array Value} {n : Nat} {g : Obj → List (Addr × Obj)} {x : Value} {Q : Value → Shared → Prop}
    (F : Fr h₀ L s.heap m) (N : News h₀ L s.heap news) (U : UpdF D (listOf its n) news g) (hs : its.size ≤ 4000)
    (h : ∀ h', Fr h₀ L h' m → News h₀ L h' (g (listOf (its.push x) (n + 1))) → Q .none { s with heap := h' }) : wpAny (model prog w) A (call (.builtin "list.append") [.ref D, x]) Q E s := by
  obtain ⟨pre, post, rfl, hg, a, b⟩ := U.split
  have z := N (D, listOf its n) (List.mem_append.mpr (.inr (.head _)))
  have e := PySem.sizeLine_eq
  refine append_at (hsz := by omega) z.1 fun h' hs ho' => h h' (F.change hs z.2.1 z.2.2) ?_
  rw [hg]
  exact news_set N a b hs ho'
section
variable {w : World} {mean : ExcName → Option Value} {mg mb : Str → Option Value}
    {dp un : Nat} {gd : Option (List Code)} {cn : Str} {nms : List (Str × NameKind)} {ig ic : Bool} {mo : List (Str × Const)} {a : Addr} {ccd : Value} {cl : List (Str × Addr)} {outer : List Env} {A₀ : Around} {base h₀ : Heap} {L : Addr} {m : Str → Option Value} {s : Shared}
    {Q E : Value → Shared → Prop} {news : List (Addr × Obj)} {x : List Nat} {y sp : Str} {t ts tm : Tok} {c0 : Nat}
theorem hb_of {K K₀ : Frag} {f : Addr} {oc : Value} {od : Option Addr} {fd : FuncData} {osl : Array (Option Value)} {args : Args} {binds : List (Str × Value)} (_X : K.In s.heap) (ho : K.lookup f = some ⟨oc, od, .func fd, osl⟩) (hf : fdAt K f = fdAt K₀ f) (hb : BindsTo s fd args binds) : BindsTo s (fdAt K₀ f) args binds := by
  rw [← hf]; unfold fdAt; rw [ho]; exact hb
theorem qsplit_2 (B : Below A₀ base outer h₀) (F : Fr h₀ L s.heap m) (X : (K0 w.params).In h₀) (N : News h₀ L s.heap news) (T : Top hd.view_39 loos mean mg mb h₀)
    (hy : y = S x) (hsp : sp = S [c0]) (hx : y.length ≤ 1000)
    (hd1 : dp + 20 < recursionLimit) (hu1 : un + 400 < cLine)
    (hret : ∀ l h' tk' (vs : List Value) n, StrsAre vs ((qs c0 (-1) x false [] [] 0).map S) → (∀ p ∈ news, p.1 < l) → Fr h₀ L h' m → News h₀ L h' ((l, listOf vs.toArray n) :: news) → Q (.ref l) { s with heap := h', toks := tk' }) :
    wpAny (model PySem.Challenge.rw_bl0007_01.row.prog w) (cal dp un gd cn nms ig ic mo L a ccd cl outer) (call (.ref 229) [.str y t, .str sp ts]) Q E s := by
  subst hsp
  revert X; k_fill; intro X
  refine wpAny_call ?_
  have hb : BindsTo s (fdAt (K0 w.params) 229) ⟨[.str y t, .str (S [c0]) ts], []⟩ [(Str.ofString "st", .str y t), (Str.ofString "sep", .str (S [c0]) ts), (Str.ofString "maxsplit", .int (-1) 592)] := by
    have X1 := X.keeps F.keep
    refine hb_of X1 (by k_is) rfl ?_
    exact binds_K X1 rfl (by k_is) rfl rfl rfl
  exact qsplit_w (mx := -1) B F X N T hb hy hx (by decide) hd1 hu1 hret
set_option maxHeartbeats 2000000 in
theorem qsplit_3 (B : Below A₀ base outer h₀) (F : Fr h₀ L s.heap m) (X : (K0 w.params).In h₀) (N : News h₀ L s.heap news) (T : Top hd.view_39 loos mean mg mb h₀)
    (hy : y = S x) (hsp : sp = S [c0]) (hx : y.length ≤ 1000)
    (hd1 : dp + 20 < recursionLimit) (hu1 : un + 400 < cLine)
    (hret : ∀ l h' tk' (vs : List Value) n, StrsAre vs ((qs c0 1 x false [] [] 0).map S) → (∀ p ∈ news, p.1 < l) → Fr h₀ L h' m → News h₀ L h' ((l, listOf vs.toArray n) :: news) → Q (.ref l) { s with heap := h', toks := tk' }) :
    wpAny (model PySem.Challenge.rw_bl0007_01.row.prog w) (cal dp un gd cn nms ig ic mo L a ccd cl outer) (call (.ref 229) [.str y t, .str sp ts] [(Str.ofString "maxsplit", .int 1 tm)]) Q E s := by
  subst hsp
  revert X; k_fill; intro X
  refine wpAny_call ?_
  have hb : BindsTo s (fdAt (K0 w.params) 229) ⟨[.str y t, .str (S [c0]) ts], [(Str.ofString "maxsplit", .int 1 tm)]⟩ [(Str.ofString "st", .str y t), (Str.ofString "sep", .str (S [c0]) ts), (Str.ofString "maxsplit", .int 1 tm)] := by
    have X1 := X.keeps F.keep
    refine hb_of X1 (by k_is) rfl ?_
    first | exact BindsTo.of_eq rfl | exact binds_K X1 rfl (by k_is) rfl rfl rfl
  exact qsplit_w (mx := 1) B F X N T hb hy hx (by decide) hd1 hu1 hret
set_option maxHeartbeats 2000000 in
theorem vpv_2 {b : Bool} {oT : Obj} {code : Array Nat} {g : Obj → List (Addr × Obj)} (B : Below A₀ base outer h₀) (F : Fr h₀ L s.heap m) (X : (K0 w.params).In h₀) (N : News h₀ L s.heap news) (T : Top hd.view_39 loos mean mg mb h₀) (G : AllBare s.gens)
    (U : UpdF 216 oT news g) (hT : TabLike oT) (hy : y = S x) (hno : ∀ c ∈ x, NoHit code c) (hcode : code = if b then qunsafeCode else unsafeCode)
    (hx : y.length ≤ 1000) (hd1 : dp + 20 < recursionLimit) (hu1 : un + 400 < cLine)
    (hret : ∀ h' tk' gs' oT', TabLike oT' → AllBare gs' → Fr h₀ L h' m → News h₀ L h' (g oT') → Q .none { s with heap := h', toks := tk', gens := gs' }) :
    wpAny (model PySem.Challenge.rw_bl0007_01.row.prog w) (cal dp un gd cn nms ig ic mo L a ccd cl outer) (call (.ref 221) [.str y t] [(Str.ofString "quoted", .bool b)]) Q E s := by
  revert X; k_fill; intro X
  refine wpAny_call ?_
  have hb : BindsTo s (fdAt (K0 w.params) 221) ⟨[.str y t], [(Str.ofString "quoted", .bool b)]⟩ [(Str.ofString "value", .str y t), (Str.ofString "quoted", .bool b)] := by
    have X1 := X.keeps F.keep
    refine hb_of X1 (by k_is) rfl ?_
    first | exact BindsTo.of_eq rfl | exact binds_K X1 rfl (by k_is) rfl rfl rfl
  subst hcode
  exact vpv_w B F X N T G hb U hT hy hno hx hd1 hu1 hret
end
end Mine
end
/-! part Lcmp -/
section
theorem Mine.startLcmp : True := by
  w_top off
  exact trivial
open PySem PySem.W PyProof.Rows PySem.Calls PySem.Spec PyProof.V
set_option Elab.async false
set_option maxRecDepth 100000
namespace Mine
theorem strsC : ∀ {vs : List Value} {xs : List Str}, StrsAre vs xs → CarriedAll vs (xs.map PyData.str)
  | _, _, .nil => .nil
  | _, _, .cons y t r => .cons (.str y t) (strsC r)
theorem lay_strs : ∀ {xs : List Str}, (∀ x ∈ xs, PyData.strOk x = true) → PyData.canLayAll0 (xs.map PyData.str) = true
  | [], _ => rfl
  | x :: r, h => by simp [PyData.canLayAll0, PyData.canLay0, h x (.head _), lay_strs fun y hy => h y (.tail _ hy)]
theorem depth_strs : ∀ xs : List Str, PyData.depthAll (xs.map PyData.str) = 0
  | [] => rfl
  | _ :: r => by simp [PyData.depthAll, PyData.depth, depth_strs r]
theorem shaped_strs {xs : List Str} (h : ∀ x ∈ xs, PyData.strOk x = true) : SeqAt.shaped (.list (xs.map PyData.str)) = true := by
  simp [SeqAt.shaped, PyData.canLay0, PyData.depth, lay_strs h, depth_strs]
theorem same_strs : ∀ xs ys : List Str, PySem.Spec.sameAll (xs.map PyData.str) (ys.map PyData.str) = decide (xs = ys)
  | [], [] => by simp [PySem.Spec.sameAll]
  | [], _ :: _ => by simp [PySem.Spec.sameAll]
  | _ :: _, [] => by simp [PySem.Spec.sameAll]
  | a :: r, b :: t => by
    simp only [List.map_cons, PySem.Spec.sameAll, PySem.Spec.same, same_strs r t]
    by_cases h : a = b <;> by_cases h' : r = t <;> simp [h, h']
section
variable {prog : Program} {w : World} {A : Around} {E : Value → Shared → Prop} {s : Shared} {a b : Addr} {xs ys : List Value} {ns ms : List Str} {Q : Value → Shared → Prop}
theorem ne_strs (ha : s.heap.IsList a xs.toArray) (hb : s.heap.IsList b ys.toArray) (hi : StrsAre xs ns) (hj : StrsAre ys ms) (h1 : ∀ x ∈ ns, PyData.strOk x = true) (h2 : ∀ x ∈ ms, PyData.strOk x = true) (hu : A.units + 64 < cLine) (h : Q (.bool (!decide (ns = ms))) s) :
    wpAny (model prog w) A (compareOp .NotEq (.ref a) (.ref b)) Q E s :=
  ne_dataH_same (reads_newData ha (strsC hi)) (reads_newData hb (strsC hj)) (shaped_strs h1) (shaped_strs h2) hu (SeqAt.noMix_of_shape (.list .str) rfl _ _ (list_map_has fun _ => rfl) (list_map_has fun _ => rfl)) (by simp only [PySem.Spec.same]; rw [same_strs]; exact h)
theorem eq_strs (ha : s.heap.IsList a xs.toArray) (hb : s.heap.IsList b ys.toArray) (hi : StrsAre xs ns) (hj : StrsAre ys ms) (h1 : ∀ x ∈ ns, PyData.strOk x = true) (h2 : ∀ x ∈ ms, PyData.strOk x = true) (hu : A.units + 64 < cLine) (h : Q (.bool (decide (ns = ms))) s) :
    wpAny (model prog w) A (compareOp .Eq (.ref a) (.ref b)) Q E s :=
  eq_dataH_same (reads_newData ha (strsC hi)) (reads_newData hb (strsC hj)) (shaped_strs h1) (shaped_strs h2) hu (SeqAt.noMix_of_shape (.list .str) rfl _ _ (list_map_has fun _ => rfl) (list_map_has fun _ => rfl)) (by simp only [PySem.Spec.same]; rw [same_strs]; exact h)
end
end Mine
end
/-! part Ufm -/
section
theorem Mine.startUfm : True := by
  w_top off
  exact trivial
open PySem PySem.W PyProof.Rows PySem.Calls PySem.Spec
set_option Elab.async false
set_option maxRecDepth 100000
namespace Mine
namespace UF
open PySem.Sre
def ufold : Array Nat := #[14, 4, 0, 2, 4294967295, 23, 12, 1, 4294967295, 24, 6, 0, 1, 16, 13, 1, 16, 10, 18, 13, 6, 16, 32, 16, 9, 0, 1]
theorem lit_no {m : M} (hcode : m.code = ufold) (hpc : m.pc = 16) (ho : m.outcome = none) (ha : m.answer = none) (hp : m.pos < m.lim) (hc : m.text.getD m.pos 0 ≠ 10) : ∃ sn, m.step = { m with seen := sn }.say false := by
  obtain ⟨code, text, lim, start, lastStart, wholeText, mustAdvance, pc, pos, handed, outermost, marks, lastmark, lastindex, loops, inner, frames, weight, answer, seen, outcome⟩ := m
  dsimp only at hcode hpc ho ha hp hc
  subst hcode hpc ho ha
  refine ⟨seen.add 16, ?_⟩
  show (if pos ≥ lim then _ else _) = _
  rw [if_neg (by omega)]
  show (match (Except.ok (text.getD pos 0 == 10, seen.add 16) : Except String (Bool × Sre.Seen)) with | .error _ => _ | .ok (false, _) => _ | .ok (true, _) => _) = _
  rw [show (text.getD pos 0 == 10) = false from by simpa using hc]
theorem lit_yes {m : M} (hcode : m.code = ufold) (hpc : m.pc = 16) (ho : m.outcome = none) (ha : m.answer = none) (hp : m.pos < m.lim) (hc : m.text.getD m.pos 0 = 10) : ∃ sn, m.step = { m with seen := sn, pc := 18, pos := m.pos + 1 } := by
  obtain ⟨code, text, lim, start, lastStart, wholeText, mustAdvance, pc, pos, handed, outermost, marks, lastmark, lastindex, loops, inner, frames, weight, answer, seen, outcome⟩ := m
  dsimp only at hcode hpc ho ha hp hc
  subst hcode hpc ho ha
  refine ⟨seen.add 16, ?_⟩
  show (if pos ≥ lim then _ else _) = _
  rw [if_neg (by omega)]
  show (match (Except.ok (text.getD pos 0 == 10, seen.add 16) : Except String (Bool × Sre.Seen)) with | .error _ => _ | .ok (false, _) => _ | .ok (true, _) => _) = _
  rw [show (text.getD pos 0 == 10) = true from by simpa using hc]
  rfl
theorem in_yes {m : M} (hcode : m.code = ufold) (hpc : m.pc = 19) (ho : m.outcome = none) (ha : m.answer = none) (hp : m.pos < m.lim) (hc : m.text.getD m.pos 0 = 32 ∨ m.text.getD m.pos 0 = 9) : ∃ sn, m.step = { m with seen := sn, pc := 26, pos := m.pos + 1 } := by
  obtain ⟨code, text, lim, start, lastStart, wholeText, mustAdvance, pc, pos, handed, outermost, marks, lastmark, lastindex, loops, inner, frames, weight, answer, seen, outcome⟩ := m
  dsimp only at hcode hpc ho ha hp hc
  subst hcode hpc ho ha
  rcases hc with h | h
  · refine ⟨(seen.add 13).add 16, ?_⟩
    show (if pos ≥ lim then _ else _) = _
    rw [if_neg (by omega), h]
    rfl
  · refine ⟨((seen.add 13).add 16).add 16, ?_⟩
    show (if pos ≥ lim then _ else _) = _
    rw [if_neg (by omega), h]
    rfl
theorem rep_no {m : M} (hcode : m.code = ufold) (hpc : m.pc = 9) (ho : m.outcome = none) (ha : m.answer = none) (hp : m.pos < m.lim) (hc : m.text.getD m.pos 0 ≠ 13) : ∃ sn, m.step = { m with seen := sn }.afterRun .giveBack 0 (m.keep m.inner.isSome) := by
  obtain ⟨code, text, lim, start, lastStart, wholeText, mustAdvance, pc, pos, handed, outermost, marks, lastmark, lastindex, loops, inner, frames, weight, answer, seen, outcome⟩ := m
  dsimp only at hcode hpc ho ha hp hc
  subst hcode hpc ho ha
  refine ⟨(seen.add 24).add 16, ?_⟩
  have e1 : min 1 ((lim : Int) - pos).toNat = 1 := by omega
  have e2 : Sre.run ufold text 13 1 pos 0 ((seen.add 24).add 16) = .ok (0, (seen.add 24).add 16) := by
    unfold Sre.run
    rw [show accepts ufold 13 (text.getD pos 0) ((seen.add 24).add 16) = .ok (text.getD pos 0 == 13, (seen.add 24).add 16) from rfl]
    rw [show (text.getD pos 0 == 13) = false from by simpa using hc]
    rfl
  show (if ((0 : Nat) : Int) > (lim : Int) - pos then _ else _) = _
  rw [if_neg (by omega)]
  show (match Sre.run ufold text 13 (min 1 ((lim : Int) - pos).toNat) pos 0 ((seen.add 24).add 16) with | .error why => _ | .ok (n, seen) => _) = _
  rw [e1, e2]
  rfl
theorem rep_yes {m : M} (hcode : m.code = ufold) (hpc : m.pc = 9) (ho : m.outcome = none) (ha : m.answer = none) (hp : m.pos < m.lim) (hc : m.text.getD m.pos 0 = 13) : ∃ sn, m.step = { m with seen := sn, pos := m.pos + 1 }.afterRun .giveBack 1 (m.keep m.inner.isSome) := by
  obtain ⟨code, text, lim, start, lastStart, wholeText, mustAdvance, pc, pos, handed, outermost, marks, lastmark, lastindex, loops, inner, frames, weight, answer, seen, outcome⟩ := m
  dsimp only at hcode hpc ho ha hp hc
  subst hcode hpc ho ha
  refine ⟨(seen.add 24).add 16, ?_⟩
  have e1 : min 1 ((lim : Int) - pos).toNat = 1 := by omega
  have e2 : Sre.run ufold text 13 1 pos 0 ((seen.add 24).add 16) = .ok (1, (seen.add 24).add 16) := by
    unfold Sre.run
    rw [show accepts ufold 13 (text.getD pos 0) ((seen.add 24).add 16) = .ok (text.getD pos 0 == 13, (seen.add 24).add 16) from rfl]
    rw [show (text.getD pos 0 == 13) = true from by simpa using hc]
    rfl
  show (if ((0 : Nat) : Int) > (lim : Int) - pos then _ else _) = _
  rw [if_neg (by omega)]
  show (match Sre.run ufold text 13 (min 1 ((lim : Int) - pos).toNat) pos 0 ((seen.add 24).add 16) with | .error why => _ | .ok (n, seen) => _) = _
  rw [e1, e2]
  rfl
/-- the search at its start s -/
def At (t : Array Nat) (n ls s : Nat) (f : Bool) (seen : Sre.Seen) : M :=
  { code := ufold, text := t, lim := n, start := s, lastStart := ls, pc := 5, pos := s, handed := s, outermost := f, marks := #[], frames := [{ wait := .nextStart, pc := 5, pos := s, outermost := f }], weight := 1, seen }
theorem at2 (t : Array Nat) (n ls s : Nat) (f : Bool) (seen : Sre.Seen) : ∃ sn, (At t n ls s f seen).runFor 2 =
    { At t n ls s f sn with pc := 9, loops := #[{ pc := 5, count := 0, outer := none }], inner := some 0, frames := [{ wait := .maxBelow, pc := 19, pos := s, outermost := f, count := 0, loop := 0 }, { wait := .closeLoop, pc := 5, pos := s, outermost := f, loop := 0 }, { wait := .nextStart, pc := 5, pos := s, outermost := f }], weight := 3 } := ⟨_, rfl⟩
theorem runFor_one {m : M} (ho : m.outcome = none) : m.runFor 1 = m.step := by
  unfold M.runFor; rw [ho]; rfl
theorem fail_at {t : Array Nat} {n ls s : Nat} {f : Bool} (seen : Sre.Seen) (hs : s < n) (h1 : t.getD s 0 ≠ 13) (h2 : t.getD s 0 ≠ 10) : ∃ sn, (At t n ls s f seen).runFor 8 =
    if s < ls then At t n ls (s + 1) false sn else { At t n ls s f sn with frames := [], weight := 0, answer := some false } := by
  obtain ⟨s1, e1⟩ := at2 t n ls s f seen
  rw [show 8 = 2 + (1 + (1 + 4)) from rfl, RX.runFor_add, e1, RX.runFor_add, runFor_one rfl]
  obtain ⟨s2, e2⟩ := rep_no (m := { At t n ls s f s1 with pc := 9, loops := #[{ pc := 5, count := 0, outer := none }], inner := some 0, frames := [{ wait := .maxBelow, pc := 19, pos := s, outermost := f, count := 0, loop := 0 }, { wait := .closeLoop, pc := 5, pos := s, outermost := f, loop := 0 }, { wait := .nextStart, pc := 5, pos := s, outermost := f }], weight := 3 }) rfl rfl rfl rfl hs h1
  rw [e2, RX.runFor_add, runFor_one rfl]
  obtain ⟨s3, e3⟩ := lit_no (m := M.afterRun { At t n ls s f s2 with pc := 9, loops := #[{ pc := 5, count := 0, outer := none }], inner := some 0, frames := [{ wait := .maxBelow, pc := 19, pos := s, outermost := f, count := 0, loop := 0 }, { wait := .closeLoop, pc := 5, pos := s, outermost := f, loop := 0 }, { wait := .nextStart, pc := 5, pos := s, outermost := f }], weight := 3 } .giveBack 0 (M.keep { At t n ls s f s2 with pc := 9, inner := some 0 } true)) rfl rfl rfl rfl hs h2
  refine ⟨s3, ?_⟩
  refine (congrArg (M.runFor 4) e3).trans ?_
  show (if s < ls then _ else _) = _
  split
  · rfl
  · rfl
end UF
end Mine
end
/-! part Ufm2 -/
section
theorem Mine.startUfm2 : True := by
  w_top off
  exact trivial
open PySem PySem.W PyProof.Rows PySem.Calls PySem.Spec
set_option Elab.async false
set_option maxRecDepth 100000
namespace Mine
namespace UF
open PySem.Sre
theorem nxt {m m' : M} {k : Nat} (h : m.step = m') (ho : m.outcome = none) : m.runFor (1 + k) = m'.runFor k := by
  rw [RX.runFor_add, runFor_one ho, h]
def gb (f : Bool) (p : Nat) (c : Int) : Sre.Frame := { wait := .giveBack, pc := 9, pos := p, outermost := f, count := c, kept := { whole := true } }
def rest3 (f : Bool) (s : Nat) : List Sre.Frame := [{ wait := .maxBelow, pc := 19, pos := s, outermost := f, count := 0, loop := 0 }, { wait := .closeLoop, pc := 5, pos := s, outermost := f, loop := 0 }, { wait := .nextStart, pc := 5, pos := s, outermost := f }]
def Un (t : Array Nat) (n ls s : Nat) (f : Bool) (seen : Sre.Seen) (hd p : Nat) (c : Int) (q : Nat) : M :=
  { At t n ls s f seen with pc := 18, pos := q, handed := hd, loops := #[{ pc := 5, count := 0, outer := none }], inner := some 0, frames := gb f p c :: rest3 f s, weight := 4 }
def Mo (t : Array Nat) (n ls s : Nat) (f : Bool) (seen : Sre.Seen) (p : Nat) (c : Int) (q : Nat) : M :=
  { At t n ls s f seen with pc := 9, pos := q, handed := q, loops := #[{ pc := 5, count := 1, began := some q, outer := none }], inner := some 0, frames := { wait := .maxMore, pc := 19, pos := q, outermost := f, count := 1, loop := 0, kept := { whole := true }, began := none } :: gb f p c :: rest3 f s, weight := 5 }
def Ta (t : Array Nat) (n ls s : Nat) (f : Bool) (seen : Sre.Seen) (p : Nat) (c : Int) (q : Nat) : M :=
  { At t n ls s f seen with pc := 19, pos := q, handed := q, loops := #[{ pc := 5, count := 0, began := none, outer := none }], inner := none, frames := { wait := .maxTail, pc := 19, pos := q, outermost := f, count := 1, loop := 0, kept := {} } :: gb f p c :: rest3 f s, weight := 5 }
theorem un1 (t : Array Nat) (n ls s : Nat) (f : Bool) (seen : Sre.Seen) (hd p : Nat) (c : Int) (q : Nat) : ∃ sn, (Un t n ls s f seen hd p c q).step = Mo t n ls s f sn p c q := ⟨_, rfl⟩
set_option maxHeartbeats 1000000 in
theorem mo3 {t : Array Nat} {n ls s : Nat} {f : Bool} (seen : Sre.Seen) {p : Nat} {c : Int} {q : Nat} (hq : q < n) (h1 : t.getD q 0 ≠ 13) (h2 : t.getD q 0 ≠ 10) : ∃ sn, (Mo t n ls s f seen p c q).runFor 4 = Ta t n ls s f sn p c q := by
  obtain ⟨s2, e2⟩ := rep_no (m := Mo t n ls s f seen p c q) rfl rfl rfl rfl hq h1
  rw [show 4 = 1 + (1 + 2) from rfl, nxt e2 rfl]
  obtain ⟨s3, e3⟩ := lit_no (m := M.afterRun { Mo t n ls s f seen p c q with seen := s2 } .giveBack 0 (M.keep (Mo t n ls s f seen p c q) true)) rfl rfl rfl rfl hq h2
  exact ⟨s3, (nxt e3 rfl).trans (by kernel_rfl)⟩
set_option maxHeartbeats 1000000 in
theorem ta_end {t : Array Nat} {n ls s : Nat} {f : Bool} (seen : Sre.Seen) {p : Nat} {c : Int} {q : Nat} (hq : q < n) (h1 : t.getD q 0 = 32 ∨ t.getD q 0 = 9) :
    ((Ta t n ls s f seen p c q).runFor 8).outcome = some .matched ∧ ((Ta t n ls s f seen p c q).runFor 8).handed = q + 1 ∧ ((Ta t n ls s f seen p c q).runFor 8).start = s := by
  obtain ⟨s2, e2⟩ := in_yes (m := Ta t n ls s f seen p c q) rfl rfl rfl rfl hq h1
  rw [show 8 = 1 + 7 from rfl, nxt e2 rfl]
  cases f
  · exact ⟨by kernel_rfl, by kernel_rfl, by kernel_rfl⟩
  · exact ⟨by kernel_rfl, by kernel_rfl, by kernel_rfl⟩
end UF
end Mine
end
/-! part Usub -/
section
theorem Mine.startUsub : True := by
  w_top off
  exact trivial
open PySem PySem.W PyProof.Rows PySem.Calls PySem.Spec
set_option Elab.async false
set_option maxRecDepth 100000
namespace Mine
namespace UF
open PySem.Sre
/-- a folded text and what it says -/
inductive Fold : List Nat → List Nat → Prop
  | nil : Fold [] []
  | ch {c : Nat} {t p : List Nat} : c ≠ 13 → c ≠ 10 → Fold t p → Fold (c :: t) (c :: p)
  | cr {t p : List Nat} : Fold t p → Fold (13 :: 10 :: 32 :: t) p
  | lf {t p : List Nat} : Fold t p → Fold (10 :: 9 :: t) p
theorem Fold.parts : ∀ {l p : List Nat}, Fold l p → (∃ pre brk rest q, l = pre ++ (brk ++ rest) ∧ (∀ c ∈ pre, c ≠ 13 ∧ c ≠ 10) ∧ (brk = [13, 10, 32] ∨ brk = [10, 9]) ∧ Fold rest q ∧ p = pre ++ q) ∨ ((∀ c ∈ l, c ≠ 13 ∧ c ≠ 10) ∧ p = l)
  | _, _, .nil => .inr ⟨(fun _ h => nomatch h), rfl⟩
  | _, _, .ch (c := c) h1 h2 r => by
    rcases r.parts with ⟨pre, brk, rest, q, rfl, hp, hb, hr, rfl⟩ | ⟨hp, rfl⟩
    · refine .inl ⟨c :: pre, brk, rest, q, rfl, fun d hd => ?_, hb, hr, rfl⟩
      rcases List.mem_cons.mp hd with rfl | hd
      · exact ⟨h1, h2⟩
      · exact hp d hd
    · refine .inr ⟨fun d hd => ?_, rfl⟩
      rcases List.mem_cons.mp hd with rfl | hd
      · exact ⟨h1, h2⟩
      · exact hp d hd
  | _, _, .cr r => .inl ⟨[], [13, 10, 32], _, _, rfl, (fun _ h => nomatch h), .inl rfl, r, rfl⟩
  | _, _, .lf r => .inl ⟨[], [10, 9], _, _, rfl, (fun _ h => nomatch h), .inr rfl, r, rfl⟩
theorem getD_drop {x : List Nat} {s c : Nat} {r : List Nat} (h : x.drop s = c :: r) : s < x.length ∧ x.toArray.getD s 0 = c ∧ x.drop (s + 1) = r := by
  have h1 : s < x.length := by
    rcases Nat.lt_or_ge s x.length with h1 | h1
    · exact h1
    · rw [List.drop_eq_nil_of_le h1] at h; cases h
  have h2 : x[s]? = some c := by
    have := congrArg (fun l => l[0]?) h
    simpa using this
  refine ⟨h1, ?_, ?_⟩
  · rw [List.getElem?_eq_getElem h1] at h2
    simp only [Option.some.injEq] at h2
    simp [Array.getD, h1, h2]
  · rw [← List.drop_drop, h]; rfl
theorem hit0 {x : List Nat} {n s : Nat} {f : Bool} {seen : Sre.Seen} {brk rest : List Nat} (hn : x.length = n) (h : x.drop s = brk ++ rest) (hb : brk = [13, 10, 32] ∨ brk = [10, 9]) :
    ((At x.toArray n (n - 1) s f seen).runFor 17).outcome = some .matched ∧ ((At x.toArray n (n - 1) s f seen).runFor 17).handed = s + brk.length ∧ ((At x.toArray n (n - 1) s f seen).runFor 17).start = s := by
  obtain ⟨s1, e1⟩ := at2 x.toArray n (n - 1) s f seen
  rcases hb with rfl | rfl
  · obtain ⟨a1, a2, a3⟩ := getD_drop h
    obtain ⟨b1, b2, b3⟩ := getD_drop a3
    obtain ⟨c1, c2, _⟩ := getD_drop b3
    rw [hn] at a1 b1 c1
    obtain ⟨s2, e2⟩ := rep_yes (m := { At x.toArray n (n - 1) s f s1 with pc := 9, loops := #[{ pc := 5, count := 0, outer := none }], inner := some 0, frames := rest3 f s, weight := 3 }) rfl rfl rfl rfl a1 a2
    obtain ⟨s3, e3⟩ := lit_yes (m := { At x.toArray n (n - 1) s f s2 with pc := 16, pos := s + 1, handed := s + 1, loops := #[{ pc := 5, count := 0, outer := none }], inner := some 0, frames := gb f (s + 1) 1 :: rest3 f s, weight := 4 }) rfl rfl rfl rfl b1 b2
    obtain ⟨s4, e4⟩ := un1 x.toArray n (n - 1) s f s3 (s + 1) (s + 1) 1 (s + 1 + 1)
    obtain ⟨s5, e5⟩ := mo3 (t := x.toArray) (n := n) (ls := n - 1) (s := s) (f := f) s4 (p := s + 1) (c := 1) (q := s + 1 + 1) c1 (by rw [c2]; decide) (by rw [c2]; decide)
    have e : (At x.toArray n (n - 1) s f seen).runFor 17 = (Ta x.toArray n (n - 1) s f s5 (s + 1) 1 (s + 1 + 1)).runFor 8 := by
      rw [show 17 = 2 + (1 + (1 + (1 + (4 + 8)))) from rfl, RX.runFor_add, e1]
      refine (nxt e2 rfl).trans ((nxt e3 rfl).trans ((nxt e4 rfl).trans ?_))
      rw [RX.runFor_add, e5]
    rw [e]
    exact ta_end s5 c1 (.inl c2)
  · obtain ⟨a1, a2, a3⟩ := getD_drop h
    obtain ⟨b1, b2, _⟩ := getD_drop a3
    rw [hn] at a1 b1
    obtain ⟨s2, e2⟩ := rep_no (m := { At x.toArray n (n - 1) s f s1 with pc := 9, loops := #[{ pc := 5, count := 0, outer := none }], inner := some 0, frames := rest3 f s, weight := 3 }) rfl rfl rfl rfl a1 (by show x.toArray.getD s 0 ≠ 13; rw [a2]; decide)
    obtain ⟨s3, e3⟩ := lit_yes (m := { At x.toArray n (n - 1) s f s2 with pc := 16, pos := s, handed := s, loops := #[{ pc := 5, count := 0, outer := none }], inner := some 0, frames := gb f s 0 :: rest3 f s, weight := 4 }) rfl rfl rfl rfl a1 a2
    obtain ⟨s4, e4⟩ := un1 x.toArray n (n - 1) s f s3 s s 0 (s + 1)
    obtain ⟨s5, e5⟩ := mo3 (t := x.toArray) (n := n) (ls := n - 1) (s := s) (f := f) s4 (p := s) (c := 0) (q := s + 1) b1 (by rw [b2]; decide) (by rw [b2]; decide)
    have e : (At x.toArray n (n - 1) s f seen).runFor 17 = (Ta x.toArray n (n - 1) s f s5 s 0 (s + 1)).runFor 8 := by
      rw [show 17 = 2 + (1 + (1 + (1 + (4 + 8)))) from rfl, RX.runFor_add, e1]
      refine (nxt e2 rfl).trans ((nxt e3 rfl).trans ((nxt e4 rfl).trans ?_))
      rw [RX.runFor_add, e5]
    rw [e]
    exact ta_end s5 b1 (.inr b2)
theorem hit {x : List Nat} {n : Nat} (hn : x.length = n) {brk rest : List Nat} (hb : brk = [13, 10, 32] ∨ brk = [10, 9]) : ∀ (pre : List Nat) (s : Nat) (f : Bool) (seen : Sre.Seen), x.drop s = pre ++ (brk ++ rest) → (∀ c ∈ pre, c ≠ 13 ∧ c ≠ 10) →
    ((At x.toArray n (n - 1) s f seen).runFor (8 * pre.length + 17)).outcome = some .matched ∧ ((At x.toArray n (n - 1) s f seen).runFor (8 * pre.length + 17)).handed = s + pre.length + brk.length ∧ ((At x.toArray n (n - 1) s f seen).runFor (8 * pre.length + 17)).start = s + pre.length
  | [], s, f, seen, h, _ => hit0 hn h hb
  | c :: pre, s, f, seen, h, hp => by
    obtain ⟨a1, a2, a3⟩ := getD_drop h
    have hc := hp c (.head _)
    rw [hn] at a1
    obtain ⟨s1, e1⟩ := fail_at (t := x.toArray) (n := n) (ls := n - 1) (s := s) (f := f) seen a1 (by rw [a2]; exact hc.1) (by rw [a2]; exact hc.2)
    have hlt : s < n - 1 := by
      have : (x.drop (s + 1)).length ≥ 2 := by rw [a3]; rcases hb with rfl | rfl <;> simp <;> omega
      rw [List.length_drop] at this; omega
    rw [if_pos hlt] at e1
    have ih := hit hn hb pre (s + 1) false s1 a3 (fun d hd => hp d (.tail _ hd))
    rw [show 8 * (c :: pre).length + 17 = 8 + (8 * pre.length + 17) from by simp; omega, RX.runFor_add, e1]
    refine ⟨ih.1, ?_, ?_⟩
    · rw [ih.2.1]; simp; omega
    · rw [ih.2.2]; simp; omega
theorem miss {x : List Nat} {n : Nat} (hn : x.length = n) : ∀ (pre : List Nat) (s : Nat) (f : Bool) (seen : Sre.Seen), x.drop s = pre → pre ≠ [] → (∀ c ∈ pre, c ≠ 13 ∧ c ≠ 10) →
    ((At x.toArray n (n - 1) s f seen).runFor (8 * pre.length + 1)).outcome = some .failed
  | [], s, f, seen, h, hne, _ => absurd rfl hne
  | c :: pre, s, f, seen, h, _, hp => by
    obtain ⟨a1, a2, a3⟩ := getD_drop h
    have hc := hp c (.head _)
    rw [hn] at a1
    obtain ⟨s1, e1⟩ := fail_at (t := x.toArray) (n := n) (ls := n - 1) (s := s) (f := f) seen a1 (by rw [a2]; exact hc.1) (by rw [a2]; exact hc.2)
    cases pre with
    | nil =>
      have : ¬ s < n - 1 := by
        have : (x.drop (s + 1)).length = 0 := by rw [a3]; rfl
        rw [List.length_drop] at this; omega
      rw [if_neg this] at e1
      rw [show 8 * [c].length + 1 = 8 + 1 from rfl, RX.runFor_add, e1]
      rfl
    | cons d pre =>
      have : s < n - 1 := by
        have : (x.drop (s + 1)).length ≥ 1 := by rw [a3]; simp
        rw [List.length_drop] at this; omega
      rw [if_pos this] at e1
      have ih := miss hn (d :: pre) (s + 1) false s1 a3 (by simp) (fun d hd => hp d (.tail _ hd))
      rw [show 8 * (c :: d :: pre).length + 1 = 8 + (8 * (d :: pre).length + 1) from by simp; omega, RX.runFor_add, e1]
      exact ih
theorem search_at {x : List Nat} {n s : Nat} (h : s + 2 ≤ n) : forSearch ufold x.toArray 0 s n false = At x.toArray n (n - 1) s true (({} : Sre.Seen).add 14) := by
  show (if (decide (s > n) || decide (n - s < 2)) = true then _ else _) = _
  rw [if_neg (by simp; omega)]
  have e : max s (n - 1) = n - 1 := by omega
  refine Eq.trans (b := At x.toArray n (max s (n - 1)) s true (({} : Sre.Seen).add 14)) ?_ (by rw [e])
  kernel_rfl
end UF
end Mine
end
/-! part Usubw -/
section
theorem Mine.startUsubw : True := by
  w_top off
  exact trivial
local macro_rules | `(tactic| walk_at "pad0") => `(tactic| skip)
open PySem PySem.W PyProof.Rows PySem.Calls PySem.Spec
set_option Elab.async false
set_option pp.deepTerms false
set_option pp.maxSteps 4000
set_option maxRecDepth 100000
namespace Mine
open RX PySem.Builtin PySem.Builtin.Re
section
variable {prog : Program} {w : World} {A : Around} {E : Value → Shared → Prop} {s : Shared}
theorem whole_ok {p ct : Addr} {code : Array Nat} {x : Str} {t : Tok} {Q : ReTarget → Shared → Prop} (I : IsPat s.heap p ct code)
    (h : Q { pattern := .ref p, string := .str x t, code := code, text := x.cps, kind := 0, groups := 0, pos := 0, lim := x.cps.size } s) :
    wpAny (model prog w) A (reWholeTarget (.ref p) (.str x t)) Q E s := by
  obtain ⟨⟨v0, v1, v3, v4, hp⟩, items, n, ht, hc⟩ := I
  unfold reWholeTarget
  refine wpAny_bind (wpAny_fieldsOf hp rfl ?_)
  refine wpAny_bind (wpAny_of_eq (a := (x.cps, 0)) rfl ?_)
  show wpAny _ _ (reNoCollectionInside (.str x t) 0 >>= _) _ _ s
  refine wpAny_bind (wpAny_of_eq (a := ()) rfl ?_)
  show wpAny _ _ (reRawItems (.ref ct) >>= _) _ _ s
  refine wpAny_bind ?_
  unfold reRawItems
  refine wpAny_bind (wpAny_seqItems ht rfl (wpAny_pure (wpAny_pure ?_)))
  rw [← hc] at h
  exact h
theorem join_flat (ps : List (List Nat)) : Txt.join (Str.ofString "") (ps.map S) = S ps.flatten := by
  have : Txt.join (Str.ofString "") (ps.map S) = Str.join ⟨#[]⟩ (ps.map S) := StrLaws.glued_eq_join _ _
  rw [this]
  clear this
  induction ps with
  | nil => rfl
  | cons a r ih =>
    cases r with
    | nil => simp [Str.join]
    | cons b r =>
      show S a ++ ⟨#[]⟩ ++ Str.join ⟨#[]⟩ ((b :: r).map S) = _
      rw [ih]
      apply congrArg Str.mk
      apply Array.toList_inj.mp
      simp [Str.cps_append, S]
theorem find_yes {x : List Nat} {done : Nat} {p : Addr} {t : Tok} {Q : Option Sre.M → Shared → Prop} (hx : x.length ≤ 100000) {pre brk rest : List Nat} (hd : done ≤ x.length) (hl : x.drop done = pre ++ (brk ++ rest)) (hp : ∀ c ∈ pre, c ≠ 13 ∧ c ≠ 10) (hb : brk = [13, 10, 32] ∨ brk = [10, 9])
    (h : ∀ m : Sre.M, m.start = done + pre.length → m.handed = done + pre.length + brk.length → Q (some m) s) :
    wpAny (model prog w) A (reNextFound { pattern := .ref p, string := .str (S x) t, code := foldCode, text := (S x).cps, kind := 0, groups := 0, pos := 0, lim := (S x).cps.size } done false) Q E s := by
  have hbl : 2 ≤ brk.length := by rcases hb with rfl | rfl <;> simp
  have hlen : done + pre.length + brk.length + rest.length = x.length := by
    have := congrArg List.length hl
    simp at this; omega
  have hs := UF.search_at (x := x) (n := x.length) (s := done) (by omega)
  have hh := UF.hit (n := x.length) rfl hb pre done true (({} : Sre.Seen).add 14) hl hp
  generalize UF.At x.toArray x.length (x.length - 1) done true (({} : Sre.Seen).add 14) = m0 at hs hh
  unfold reNextFound
  show wpAny _ _ (reRunToEnd (Sre.forSearch UF.ufold x.toArray 0 done (S x).cps.size false)) _ _ s
  rw [show (S x).cps.size = x.length from by simp [S], hs]
  obtain ⟨h1, h2, h3⟩ := hh
  have hrun : Sre.M.runFor (4 * ((8 * pre.length + 17) + 1)) m0 = Sre.M.runFor (8 * pre.length + 17) m0 := by
    rw [show 4 * ((8 * pre.length + 17) + 1) = (8 * pre.length + 17) + (24 * pre.length + 55) from by omega, runFor_add, runFor_done _ _ (by rw [h1]; rfl)]
  have hk : 8 * pre.length + 17 < 2 ^ 64 := Nat.lt_of_le_of_lt (show 8 * pre.length + 17 ≤ 1000000 by omega) (by decide)
  refine run_end hk true (by rw [hrun]; exact h1) ?_
  rw [hrun]
  exact h _ h3 h2
theorem find_no {x : List Nat} {done : Nat} {p : Addr} {t : Tok} {Q : Option Sre.M → Shared → Prop} (hx : x.length ≤ 100000) (hd : done ≤ x.length) (hp : ∀ c ∈ x.drop done, c ≠ 13 ∧ c ≠ 10) (h : Q none s) :
    wpAny (model prog w) A (reNextFound { pattern := .ref p, string := .str (S x) t, code := foldCode, text := (S x).cps, kind := 0, groups := 0, pos := 0, lim := (S x).cps.size } done false) Q E s := by
  unfold reNextFound
  show wpAny _ _ (reRunToEnd (Sre.forSearch UF.ufold x.toArray 0 done (S x).cps.size false)) _ _ s
  rw [show (S x).cps.size = x.length from by simp [S]]
  by_cases h2 : done + 2 ≤ x.length
  · have hs := UF.search_at (x := x) (n := x.length) (s := done) h2
    have h1 := UF.miss (n := x.length) rfl (x.drop done) done true (({} : Sre.Seen).add 14) rfl (by intro e; have := congrArg List.length e; simp at this; omega) hp
    generalize UF.At x.toArray x.length (x.length - 1) done true (({} : Sre.Seen).add 14) = m0 at hs h1
    rw [hs]
    have hL : (x.drop done).length ≤ 100000 := by rw [List.length_drop]; omega
    generalize (x.drop done).length = n at h1 hL
    have hrun : Sre.M.runFor (4 * ((8 * n + 1) + 1)) m0 = Sre.M.runFor (8 * n + 1) m0 := by
      rw [show 4 * ((8 * n + 1) + 1) = (8 * n + 1) + (24 * n + 7) from by omega, runFor_add, runFor_done _ _ (by rw [h1]; rfl)]
    have hk : 8 * n + 1 < 2 ^ 64 := Nat.lt_of_le_of_lt (show 8 * n + 1 ≤ 1000000 by omega) (by decide)
    exact run_end hk false (by rw [hrun]; exact h1) h
  · have e : Sre.forSearch UF.ufold x.toArray 0 done x.length false = ({ code := UF.ufold, text := x.toArray, lim := x.length, start := done, pc := 5, pos := done, handed := done, marks := #[], answer := some false, seen := ({} : Sre.Seen).add 14 } : Sre.M) := by
      show (if (decide (done > x.length) || decide (x.length - done < 2)) = true then _ else _) = _
      rw [if_pos (by simp; omega)]
      kernel_rfl
    rw [e]
    exact run_end (k := 0) (by decide) false rfl h
theorem put {P : Addr} {vs : List Value} {nn : Nat} {v : Value} {Q : Unit → Shared → Prop} (hP : s.heap.get? P = some (listOf vs.toArray nn)) (hz : vs.length ≤ 400000)
    (h : ∀ h' nn', h'.get? P = some (listOf (vs ++ [v]).toArray nn') → (∀ b o, b ≠ P → s.heap.get? b = some o → h'.get? b = some o) → Q () { s with heap := h' }) : wpAny (model prog w) A (updateSeq P (·.push v)) Q E s := by
  have e := PySem.sizeLine_eq
  have e2 : Obj.mapSeq (·.push v) (listOf vs.toArray nn) = listOf (vs ++ [v]).toArray (nn + 1) := by
    simp [PySem.W.listOf, Obj.mapSeq]
  refine wpAny_updateSeq hP rfl (h _ (nn + 1) ?_ ?_) (by simp; omega) (by simp; omega)
  · rw [← e2]
    exact Heap.get?_update_self _ hP rfl
  · exact fun b o hb e => (Heap.SameBut.update ..).extBut b o hb e
theorem slice_re {x : List Nat} {a b : Nat} {z : List Nat} {Q : Value → Shared → Prop} (hz : (x.drop a).take (b - a) = z) (hx : x.length ≤ 100000) (h : Q (.str (S z) s.toks) { s with toks := s.toks + 1 }) : wpAny (model prog w) A (reSlice x.toArray 0 a b) Q E s := by
  have e : (⟨x.toArray.extract a b⟩ : Str) = S z := by
    rw [← hz]
    apply congrArg Str.mk
    apply Array.toList_inj.mp
    simp [List.extract]
  have e2 := PySem.sizeLine_eq
  unfold reSlice
  show wpAny _ _ (mkStr _) _ _ _
  rw [e]
  refine wpAny_mkStr h ?_
  rw [S_len, ← hz, List.length_take, List.length_drop]; omega
theorem sub_last {p ct P : Addr} {x : List Nat} {t t0 : Tok} (hx : x.length ≤ 100000) {R : Result → Shared → Prop} {done k : Nat} {vs : List Value} {ps : List (List Nat)} {nn : Nat}
    (hd : done ≤ x.length) (I : IsPat s.heap p ct foldCode) (n1 : P ≠ p) (n2 : P ≠ ct) (hl1 : ps.length ≤ done) (hl2 : ps.flatten.length ≤ done) (hP : s.heap.get? P = some (listOf vs.toArray nn)) (hvs : StrsAre vs (ps.map S)) (hp : ∀ c ∈ x.drop done, c ≠ 13 ∧ c ≠ 10)
    (hR : ∀ t' h' tk, (∀ b o, b ≠ P → s.heap.get? b = some o → h'.get? b = some o) → R (.ok (.ret (.str (S (ps.flatten ++ x.drop done)) t'))) { s with heap := h', toks := tk }) :
    codeAny (model prog w) A (.builtin "re.Pattern.sub.loop" ⟨[.ref p, .str (S x) t, .str (Str.ofString "") t0, rawInt 0, rawInt 0, rawInt k, rawInt done, rawInt done, .bool false, .ref P, .bool false], []⟩) R s := by
  refine codeAny_builtin entry_loop ?_
  unfold «re.Pattern.sub.loop»
  refine wpAny_bind (whole_ok I ?_)
  show wpAny _ _ (reLiteralCannotBeTurned (.str (Str.ofString "") t0) >>= _) _ _ s
  refine wpAny_bind (wpAny_of_eq (a := ()) rfl ?_)
  show wpAny _ _ (reNextFound _ done false >>= _) _ _ s
  refine wpAny_bind ?_
  have hvl : vs.length = ps.length := by rw [strs_len hvs, List.length_map]
  refine find_no hx hd hp ?_
  dsimp only
  have hsz : (S x).cps.size = x.length := by simp [S]
  rw [hsz]
  have fin : ∀ (s1 : Shared) (vs1 : List Value) (ps1 : List (List Nat)) (n1' : Nat), s1.heap.get? P = some (listOf vs1.toArray n1') → StrsAre vs1 (ps1.map S) → ps1.length ≤ 200000 → ps1.flatten.length ≤ 100000 → (∀ t' tk, R (.ok (.ret (.str (S ps1.flatten) t'))) { s1 with toks := tk }) →
      wpAny (model prog w) (A.under (.builtin "re.Pattern.sub.loop" ⟨[.ref p, .str (S x) t, .str (Str.ofString "") t0, rawInt 0, rawInt 0, rawInt k, rawInt done, rawInt done, .bool false, .ref P, .bool false], []⟩)) (do
        let joiner ← reSlice x.toArray 0 0 0
        let __do_lift ← seqItems? (Value.ref P)
        if (__do_lift.getD #[]).isEmpty = true then do
            let text ← pure joiner
            if false = true then do
                let __do_lift ← holding [text] do
                      let __do_lift ← mkInt (k : Int)
                      newTuple [text, __do_lift]
                ret __do_lift
              else ret text
          else do
            let text ← call (Value.builtin (if ((0 : Nat) == 0) = true then "str.join" else "bytes.join")) [joiner, Value.ref P]
            if false = true then do
                let __do_lift ← holding [text] do
                      let __do_lift ← mkInt (k : Int)
                      newTuple [text, __do_lift]
                ret __do_lift
              else ret text) (fun fin s' => match fin with | .done f => R (.ok f) s' | .again c' => c'.quiet = true ∧ codeAny (model prog w) A c' R s') (fun e s' => R (.error e) s') s1 := by
    intro s1 vs1 ps1 n1' h1 h2 h3 h4 h5
    refine wpAny_bind (slice_re (z := []) (by simp) hx ?_)
    refine wpAny_bind (wpAny_seqItems (o := listOf vs1.toArray n1') h1 rfl ?_)
    cases vs1 with
    | nil =>
      have : ps1 = [] := by cases ps1 with | nil => rfl | cons _ _ => cases h2
      subst this
      exact wpAny_pure (h5 _ _)
    | cons v vs1 =>
      show wpAny _ _ (call (.builtin "str.join") [.str (S []) _, .ref P] >>= _) _ _ _
      refine wpAny_bind (join_list (ys := ps1.map S) ⟨_, h1, rfl, _, rfl⟩ h2 ?_ fun t' tk => ?_)
      · have e1 : ((ps1.map S).map (·.length)).sum = ps1.flatten.length := by
          rw [List.length_flatten, List.map_map]
          exact congrArg List.sum (List.map_congr_left fun a _ => S_len a)
        rw [e1]
        show ps1.flatten.length + _ * 0 ≤ _
        omega
      · rw [show S [] = Str.ofString "" from rfl, join_flat]
        exact wpAny_pure (h5 _ _)
  by_cases hlt : done < x.length
  · show wpAny _ _ (if done < x.length then _ else _) _ _ s
    rw [if_pos hlt]
    show wpAny _ _ (reSlice x.toArray 0 done x.length >>= _) _ _ s
    refine wpAny_bind (slice_re (z := x.drop done) (by rw [List.take_of_length_le]; rw [List.length_drop]; exact Nat.le_refl _) hx ?_)
    refine wpAny_bind (put (s := { s with toks := s.toks + 1 }) hP (by omega) fun h' nn' hP' k' => ?_)
    refine fin { s with heap := h', toks := s.toks + 1 } _ (ps ++ [x.drop done]) nn' hP' (by rw [List.map_append]; exact strs_snoc1 hvs) (by simp; omega) (by rw [show (ps ++ [x.drop done]).flatten = ps.flatten ++ x.drop done from by simp, List.length_append, List.length_drop]; omega) fun t' tk => ?_
    have := hR t' h' tk k'
    rw [show (ps ++ [x.drop done]).flatten = ps.flatten ++ x.drop done from by simp]
    exact this
  · show wpAny _ _ (if done < x.length then _ else _) _ _ s
    rw [if_neg hlt]
    refine fin s vs ps nn hP hvs (by omega) (by omega) fun t' tk => ?_
    have := hR t' s.heap tk fun _ _ _ e => e
    rw [List.drop_eq_nil_of_le (by omega), List.append_nil] at this
    exact this
theorem sub_loop {p ct P : Addr} {x : List Nat} {t t0 : Tok} (hx : x.length ≤ 100000) {R : Result → Shared → Prop} : ∀ (fuel : Nat) (done k : Nat) (s : Shared) (vs : List Value) (ps : List (List Nat)) (q : List Nat) (nn : Nat),
    x.length - done ≤ fuel → done ≤ x.length → IsPat s.heap p ct foldCode → P ≠ p → P ≠ ct → ps.length ≤ done → ps.flatten.length ≤ done → s.heap.get? P = some (listOf vs.toArray nn) → StrsAre vs (ps.map S) → UF.Fold (x.drop done) q →
    (∀ t' h' tk, (∀ b o, b ≠ P → s.heap.get? b = some o → h'.get? b = some o) → R (.ok (.ret (.str (S (ps.flatten ++ q)) t'))) { s with heap := h', toks := tk }) →
    codeAny (model prog w) A (.builtin "re.Pattern.sub.loop" ⟨[.ref p, .str (S x) t, .str (Str.ofString "") t0, rawInt 0, rawInt 0, rawInt k, rawInt done, rawInt done, .bool false, .ref P, .bool false], []⟩) R s := by
  intro fuel
  induction fuel with
  | zero =>
    intro done k s vs ps q nn hf hd I n1 n2 hl1 hl2 hP hvs hF hR
    exact sub_last hx hd I n1 n2 hl1 hl2 hP hvs (by rw [List.drop_eq_nil_of_le (by omega)]; exact fun _ h => nomatch h) (by
      rw [List.drop_eq_nil_of_le (by omega)] at hF ⊢
      cases hF; exact hR)
  | succ fuel ih =>
    intro done k s vs ps q nn hf hd I n1 n2 hl1 hl2 hP hvs hF hR
    rcases hF.parts with ⟨pre, brk, rest, q', hl, hp, hb, hF', rfl⟩ | ⟨hp, rfl⟩
    · refine codeAny_builtin entry_loop ?_
      unfold «re.Pattern.sub.loop»
      refine wpAny_bind (whole_ok I ?_)
      show wpAny _ _ (reLiteralCannotBeTurned (.str (Str.ofString "") t0) >>= _) _ _ s
      refine wpAny_bind (wpAny_of_eq (a := ()) rfl ?_)
      have hcps : (S x).cps = x.toArray := rfl
      show wpAny _ _ (reNextFound _ done false >>= _) _ _ s
      refine wpAny_bind ?_
      have hbl : 2 ≤ brk.length := by rcases hb with rfl | rfl <;> simp
      have hlen : done + pre.length + brk.length + rest.length = x.length := by
        have := congrArg List.length hl
        simp at this; omega
      have hvl : vs.length = ps.length := by rw [strs_len hvs, List.length_map]
      refine find_yes hx hd hl hp hb fun m e1 e2 => ?_
      dsimp only
      rw [e1, e2]
      have hdr : x.drop (done + pre.length + brk.length) = rest := by
        have e9 : done + pre.length + brk.length = done + (pre ++ brk).length := by rw [List.length_append, Nat.add_assoc]
        rw [e9, ← List.drop_drop, hl, ← List.append_assoc, List.drop_left]
      have hmust : (done + pre.length + brk.length == done + pre.length) = false := by rw [beq_eq_false_iff_ne]; omega
      rw [hmust]
      by_cases hpe : pre = []
      · subst hpe
        show wpAny _ _ (if done < done + 0 then _ else _) _ _ s
        rw [if_neg (by omega)]
        show wpAny _ _ (updateSeq P (fun x => x.push (.str (Str.ofString "") t0)) >>= _) _ _ s
        refine wpAny_bind (put hP (by omega) fun h' nn' hP' k' => ?_)
        refine wpAny_pure ⟨Code.quiet_builtin _ (by decide +kernel), ?_⟩
        refine ih (done + ([] : List Nat).length + brk.length) (k + 1) { s with heap := h' } _ (ps ++ [[]]) q' nn' (by simp; omega) (by simp; omega) ?_ n1 n2 (by simp; omega) (by rw [show (ps ++ [([] : List Nat)]).flatten = ps.flatten from by simp]; omega) hP' ?_ (by rw [hdr]; exact hF') ?_
        · exact ⟨let ⟨a, b, c, d, e⟩ := I.pat; ⟨a, b, c, d, k' _ _ (Ne.symm n1) e⟩, let ⟨a, b, e, f⟩ := I.tup; ⟨a, b, k' _ _ (Ne.symm n2) e, f⟩⟩
        · rw [List.map_append]; exact strs_snoc1 hvs
        · intro t' h2 tk k2
          have := hR t' h2 tk fun b o hb e => k2 b o hb (k' b o hb e)
          simpa using this
      · have hpl : 0 < pre.length := (by cases pre with | nil => exact absurd rfl hpe | cons _ _ => simp)
        show wpAny _ _ (if done < done + pre.length then _ else _) _ _ s
        rw [if_pos (by omega)]
        show wpAny _ _ (reSlice x.toArray 0 done (done + pre.length) >>= _) _ _ s
        refine wpAny_bind (slice_re (z := pre) (by rw [hl, show done + pre.length - done = pre.length from by omega, List.take_left]) hx ?_)
        refine wpAny_bind (put (s := { s with toks := s.toks + 1 }) hP (by omega) fun h1 nn1 hP1 k1 => ?_)
        show wpAny _ _ (updateSeq P (fun x => x.push (.str (Str.ofString "") t0)) >>= _) _ _ _
        refine wpAny_bind (put (s := { s with toks := s.toks + 1, heap := h1 }) hP1 (by simp; omega) fun h' nn' hP' k'' => ?_)
        have k' : ∀ b o, b ≠ P → s.heap.get? b = some o → h'.get? b = some o := fun b o hb e => k'' b o hb (k1 b o hb e)
        refine wpAny_pure ⟨Code.quiet_builtin _ (by decide +kernel), ?_⟩
        refine ih (done + pre.length + brk.length) (k + 1) { s with heap := h', toks := s.toks + 1 } _ (ps ++ [pre] ++ [[]]) q' nn' (by omega) (by omega) ?_ n1 n2 (by simp; omega) (by rw [show (ps ++ [pre] ++ [([] : List Nat)]).flatten = ps.flatten ++ pre from by simp, List.length_append]; omega) hP' ?_ (by rw [hdr]; exact hF') ?_
        · exact ⟨let ⟨a, b, c, d, e⟩ := I.pat; ⟨a, b, c, d, k' _ _ (Ne.symm n1) e⟩, let ⟨a, b, e, f⟩ := I.tup; ⟨a, b, k' _ _ (Ne.symm n2) e, f⟩⟩
        · rw [List.map_append, List.map_append]; exact strs_snoc1 (strs_snoc1 hvs)
        · intro t' h2 tk k2
          have := hR t' h2 tk fun b o hb e => k2 b o hb (k' b o hb e)
          simpa using this
    · exact sub_last hx hd I n1 n2 hl1 hl2 hP hvs hp hR
theorem entry_again {T : String} {name : Str} {id : String} {b : Builtin} {self : Value} {rest : List Value} {Q : Value → Shared → Prop} (h : Slot T name id) (hT : s.TypeIs self T) (hb : entryFor table id = some b) (ha : argsOk id ⟨self :: rest, []⟩)
    (hc : wpAny (model prog w) A.in1 (b ⟨self :: rest, []⟩) (fun fin s' => match fin with | .done f => (match f with | .ret v => Q v s' | _ => False) | .again c' => c'.quiet = true ∧ codeAny (model prog w) A c' (fun r s' => match r with | .ok (.ret v) => Q v s' | .ok _ => False | .error e => E e s') s') E s) :
    wpAny (model prog w) A (call (.builtin id) (self :: rest)) Q E s := by
  refine wpAny_call (codeAny_call_builtin h.plain hb (h.check _ _ _ _ _ _ _ _ hT ha (wpAny_mono hc (fun fin s' h' => ?_) fun _ _ h' => h')))
  cases fin with
  | done f =>
    cases f with
    | ret v => exact h'
    | _ => exact h'.elim
  | again c => exact h'
end
end Mine
end
/-! part Lval -/
section
theorem Mine.startLval : True := by
  w_top off
  exact trivial
local macro_rules | `(tactic| walk_at "pad0") => `(tactic| skip)
local macro_rules | `(tactic| walk_at "pad1") => `(tactic| skip)
open PySem PySem.W PyProof.Rows PySem.Calls PySem.Spec
set_option Elab.async false
set_option pp.deepTerms false
set_option pp.maxSteps 3000
set_option maxRecDepth 100000
namespace Mine
section
variable {prog : Program} {w : World} {A : Around} {h₀ : Heap} {L : Addr} {m : Str → Option Value} {env : Env} {ct elt : Expr} {x : Str} {scope : Scope} {cl : List (Str × Addr)} {s : Shared} {S : List (Addr × Obj) → Prop} {P : Nat → Value → Prop} {Fin : List Value → List (Addr × Obj) → Prop}
/-- the turns of a list comprehension with a test, by an invariant -/
theorem restT_inv {n : Nat} (Inv : Nat → List Value → List (Addr × Obj) → Prop)
    (turn : ∀ i ys news v I oI C oC D m₂ h tk (E' : Value → Shared → Prop), i < n → Inv i ys news → P i v → LCg.NsObj oC m₂ → m₂ x = some v → Fr h₀ L h m → News h₀ L h ((I, oI) :: (C, oC) :: (D, LCg.lst ys) :: news) → LCg.Off3 I C D news → ((@Ne Nat I C) ∧ (@Ne Nat I D) ∧ (@Ne Nat C D)) →
      wpAny (model prog w) A (isTrue ct (compEnvC scope cl C env) (eval ct (compEnvC scope cl C env))) (fun ok s' => if ok = true then
        wpAny (model prog w) A (eval elt (compEnvC scope cl C env)) (LCg.CompEnd h₀ L m { s with heap := h, toks := tk } I oI C oC D (LCg.lst ys) S (fun y news' => Inv (i + 1) (ys ++ [y]) news')) E' s'
        else LCg.CompEnd h₀ L m { s with heap := h, toks := tk } I oI C oC D (LCg.lst ys) S (fun _ news' => Inv (i + 1) ys news') Value.none s') E' { s with heap := h, toks := tk })
    (fin : ∀ ys news, Inv n ys news → Fin ys news) : ∀ k i ys news, i + k = n → Inv i ys news → LCt.CompRestT prog w A h₀ L m env ct elt x scope cl s S P Fin k i ys news := by
  intro k
  induction k with
  | zero =>
    intro i ys news e hI
    have : i = n := by omega
    subst this
    exact LCt.CompRestT.zero (fin _ _ hI)
  | succ k ih =>
    intro i ys news e hI
    refine LCt.CompRestT.succ ?_
    intro v I oI C oC D m₂ h tk E' hv hC hx F N off ne
    refine wpAny_mono (turn i ys news v I oI C oC D m₂ h tk E' (by omega) hI hv hC hx F N off ne) (fun ok s₂ hq => ?_) fun _ _ e => e
    cases ok with
    | true =>
      simp only [if_true] at hq ⊢
      refine wpAny_mono hq (fun y s₃ hq => ?_) fun _ _ e => e
      obtain ⟨h', tk', nw, e', F', N', off', hS, hI'⟩ := hq
      exact ⟨h', tk', nw, e', F', N', off', hS, ih (i + 1) _ _ (by omega) hI'⟩
    | false =>
      simp only [Bool.false_eq_true, if_false] at hq ⊢
      obtain ⟨h', tk', nw, e', F', N', off', hS, hI'⟩ := hq
      exact ⟨h', tk', nw, e', F', N', off', hS, ih (i + 1) _ _ (by omega) hI'⟩
end
theorem updF_same {d : Addr} {o : Obj} {l : List (Addr × Obj)} {g : Obj → List (Addr × Obj)} (U : UpdF d o l g) : l = g o := by
  obtain ⟨pre, post, rfl, hg, _, _⟩ := U.split
  rw [hg]
/-- how a sign is written in a value -/
def escC (c : Nat) : List Nat := if c = 94 then [94, 94] else if c = 10 then [94, 110] else if c = 34 then [94, 39] else [c]
def escP (t : List Nat) : List Nat := (t.map escC).flatten
def wrP (q : Bool) (t : List Nat) : List Nat := if q then 34 :: (escP t ++ [34]) else escP t
def rdP (b q : Bool) (t : List Nat) : Str := if q || !b then S t else Txt.upper (S t)
theorem escC_len (c : Nat) : (escC c).length ≤ 2 := by
  unfold escC
  by_cases h1 : c = 94
  · simp [h1]
  · by_cases h2 : c = 10
    · simp [h2]
    · by_cases h3 : c = 34
      · simp [h3]
      · simp [h1, h2, h3]
theorem escP_len : ∀ t : List Nat, (escP t).length ≤ 2 * t.length
  | [] => by simp [escP]
  | c :: r => by
    have h1 := escP_len r
    have h2 := escC_len c
    simp only [escP, List.map_cons, List.flatten_cons, List.length_append, List.length_cons] at h1 ⊢
    omega
theorem wrP_len (q : Bool) (t : List Nat) : (wrP q t).length ≤ 2 * t.length + 2 := by
  have := escP_len t
  unfold wrP
  cases q
  · simp; omega
  · simp; omega
theorem wr_len {ts : List (List Nat)} (h : ∀ t ∈ ts, t.length ≤ 4) : ∀ {qs : List Bool}, ∀ x ∈ List.zipWith wrP qs ts, x.length ≤ 10 := by
  intro qs x hx
  obtain ⟨i, hi, rfl⟩ := List.getElem_of_mem hx
  rw [List.getElem_zipWith]
  have h1 := wrP_len (qs[i]'(by simp at hi; omega)) (ts[i]'(by simp at hi; omega))
  have h2 := h (ts[i]'(by simp at hi; omega)) (List.getElem_mem _)
  omega
theorem sum_le10 : ∀ {l : List (List Nat)}, (∀ x ∈ l, x.length ≤ 10) → ((l.map S).map (·.length)).sum ≤ 10 * l.length
  | [], _ => by simp
  | x :: r, h => by
    have h1 := sum_le10 (l := r) fun y hy => h y (.tail _ hy)
    have h2 := h x (.head _)
    simp only [List.map_cons, List.sum_cons, S_len, List.length_cons] at h1 ⊢
    omega
theorem esc_sums : ∀ t : List Nat, ((t.map fun c => S (escC c)).map (·.length)).sum ≤ 2 * t.length
  | [] => by simp
  | c :: r => by
    have h1 := esc_sums r
    have h2 := escC_len c
    simp only [List.map_cons, List.sum_cons, S_len, List.length_cons] at h1 ⊢
    omega
theorem esc_sum {t : List Nat} (h : t.length ≤ 4) : ((t.map fun c => S (escC c)).map (·.length)).sum + (t.map fun c => S (escC c)).length ≤ 1048576 := by
  have := esc_sums t
  rw [List.length_map]; omega
theorem get3 (x : Nat) (a b c d e f : Tok) : (Spec.lookup (PyData.str (S [x])) (strData [(Value.str (Str.ofString "^") a, Value.str (Str.ofString "^^") b), (Value.str (Str.ofString "\n") c, Value.str (Str.ofString "^n") d), (Value.str (Str.ofString "\"") e, Value.str (Str.ofString "^'") f)])).getD (PyData.str (S [x])) = PyData.str (S (escC x)) := by
  have e1 : Str.ofString "^^" = S [94, 94] := by decide +kernel
  have e2 : Str.ofString "^n" = S [94, 110] := by decide +kernel
  have e3 : Str.ofString "^'" = S [94, 39] := by decide +kernel
  have e4 : Str.ofString "^" = S [94] := by decide +kernel
  have e5 : Str.ofString "\n" = S [10] := by decide +kernel
  have e6 : Str.ofString "\"" = S [34] := by decide +kernel
  rw [e1, e2, e3, e4, e5, e6]
  have hs : ∀ x y : Str, Spec.same (.str x) (.str y) = (x == y) := fun x y => by unfold Spec.same; rfl
  simp only [strData, datumOf, Option.getD_some, Spec.lookup, hs, S_beq]
  unfold escC
  by_cases h1 : x = 94
  · subst h1; rfl
  · by_cases h2 : x = 10
    · subst h2; rfl
    · by_cases h3 : x = 34
      · subst h3; rfl
      · simp [h1, h2, h3, Ne.symm h1, Ne.symm h2, Ne.symm h3]
def uvL : List Str → UV
  | [x] => .one x
  | xs => .many xs
/-- a list of lists of signs in the ledger -/
def TxsAt (news : List (Addr × Obj)) (lvs : List Value) (ts : List (List Nat)) : Prop := ∀ (i : Nat) (v : Value), lvs[i]? = some v → ∃ li ys t, v = .ref li ∧ (li, LCg.lst ys) ∈ news ∧ ts[i]? = some t ∧ StrsAre ys (t.map fun c => S [c])
section Lval
local macro_rules | `(tactic| k_room) => `(tactic| ktr_room)
local macro_rules | `(tactic| k_units) => `(tactic| ktr_units)
local macro_rules | `(tactic| k_all) => `(tactic| assumption)
local macro_rules | `(tactic| walk_at "call ref") => `(tactic| refine TEnd.out ?_)
local macro_rules | `(tactic| walk_at "subscriptTail") => `(tactic| refine TEnd.out ?_)
local macro_rules | `(tactic| walk_at "eval Name") => `(tactic| (k_here; k_dflt (first
  | (refine' ld ?k1 ?k2 ?_; (case k1 => k_asm); (case k2 => first | exact rfl | assumption); k_whole)
  | (refine' nameX_L ?F ?v ?_ ?a ?b; (case F => k_asm); (case a => rfl); (case b => rfl); (case v => first | exact rfl | assumption); k_whole))))
local macro_rules | `(tactic| walk_at "loadName") => `(tactic| (k_here; k_dflt (refine' ldn ?k1 ?k2 ?_; (case k1 => k_asm); (case k2 => first | exact rfl | assumption); k_whole)))
local macro_rules | `(tactic| walk_at "compareOp NotEq ref ref") => `(tactic| refine TEnd.out ?_)
local macro_rules | `(tactic| walk_at "call builtin:str.join") => `(tactic| refine TEnd.out ?_)
local macro_rules | `(tactic| walk_at "CompSrcT") => `(tactic| refine TEnd.out ?_)
local macro_rules | `(tactic| walk_at "CompSrc") => `(tactic| refine TEnd.out ?_)
local macro_rules | `(tactic| walk_at "eval ListComp") => `(tactic| refine TEnd.out ?_)
local macro_rules | `(tactic| walk_at "exec For") => `(tactic| refine TEnd.out ?_)
local macro_rules | `(tactic| walk_at "exec For Name Name cons nil") => `(tactic| refine TEnd.out ?_)
set_option maxHeartbeats 4000000 in
theorem lval_w {w : World} {mean : ExcName → Option Value} {mg mb : Str → Option Value}
    {dp un : Nat} {gd : Option (List Code)} {cn : Str} {nms : List (Str × NameKind)} {ig ic : Bool} {mo : List (Str × Const)} {a : Addr} {ccd : Value} {cl : List (Str × Addr)} {outer : List Env} {A₀ : Around} {base h₀ : Heap} {L : Addr} {m : Str → Option Value} {s : Shared}
    {Q E : Value → Shared → Prop} {st sc lt : Addr} {vs : List Value} {ns : List Int} {n2 : Nat} {news : List (Addr × Obj)} {o : Obj} {g : Obj → List (Addr × Obj)} {b : Bool} {lvs : List Value}
    (B : Below A₀ base outer h₀) (F : Fr h₀ L s.heap m) (X : (K0 w.params).In h₀) (N : News h₀ L s.heap news) (T : Top hd.view_39 loos mean mg mb h₀)
    (U : UpdF st o news g) (hS : StObj sc o) (hsc : (sc, listOf vs.toArray n2) ∈ news) (hI : IntsAre vs ns) (hl : ns.length ≤ 30) (hne : @Ne Nat sc st) (hlt : (lt, LCg.lst lvs) ∈ news) (hltst : @Ne Nat lt st)
    {ts : List (List Nat)} (htx : TxsAt news lvs ts) (hts : lvs.length = ts.length) (htl : ts.length ≤ 4) (htn : ∀ t ∈ ts, t.length ≤ 4) (htc : ∀ t ∈ ts, ∀ c ∈ t, c < 0x110000)
    (hd1 : dp + 40 < recursionLimit) (hu1 : un + 800 < cLine)
    (hret : ∀ (T Rd : Addr) (qs : List Bool) (tw : Tok) (v : Value) (rs : List Value) (n : Nat) (o' : Obj) (h' : Heap) (tk' : Nat), qs.length = ts.length → (∀ (j : Nat) (q : Bool) (t : List Nat), qs[j]? = some q → ts[j]? = some t → q = false → ∀ c ∈ t, c ≠ 44 ∧ c ≠ 59 ∧ c ≠ 58 ∧ c ≠ 10) → StObj sc o' → Fr h₀ L h' m →
      News h₀ L h' ((T, { cls := .type "tuple", data := .seq #[.str (Txt.join (Str.ofString ",") ((List.zipWith wrP qs ts).map S)) tw, v] }) :: (Rd, listOf rs.toArray n) :: g o') → (∀ p ∈ g o', p.1 < Rd) → UVal [(Rd, listOf rs.toArray n)] (uvL (List.zipWith (rdP b) qs ts)) v → Q (.ref T) { s with heap := h', toks := tk' }) :
    wpAny (model PySem.Challenge.rw_bl0007_01.row.prog w) (cal dp un gd cn nms ig ic mo L a ccd cl outer) (call (.ref 418) [.ref st, .ref lt, .bool b]) Q E s := by
  revert X; k_fill; intro X
  refine wpAny_call ?_
  k_dflt (refine' code_def (binds := [(Str.ofString "state", .ref st), (Str.ofString "texts", .ref lt), (Str.ofString "strict", .bool b)]) ?k1 ?k2 ?k3 ?k4 ?k5 ?kA ?kF ?kK ?k6 ?k7 ?k8 ?k9 ?kB ?_ ?c2 ?c3 ?c4 ?c5; (case kA => exact rfl); (case kF => exact rfl); (case kK => exact rfl); (case k1 => k_asm); (case k2 => k_asm); (case k3 => k_asm); (case k4 => k_asm); (case k5 => k_asm); (case k6 => k_is); (case k7 => k_is); (case k8 => k_room); (case k9 => exact BindsTo.of_eq rfl); (case c5 => decide); (case kB => exact locs rfl); (case c2 => exact rfl); (case c3 => exact rfl); (case c4 => exact rfl); k_whole; intro g' L' h' FG' F' N' B' X' T'; (try dsimp only); (try k_lift B'); (try k_fold))
  k_steps
  refine TEnd.mk ?_
  rename_i Wr hh1 lW Rd hh2 lR D hh3 lD hh4 hh5 h1 F1 N1
  have hWst : @Ne Nat Wr st := Nat.ne_of_gt (lW (st, o) (updF_mem U))
  have hRst : @Ne Nat Rd st := Nat.ne_of_gt (Nat.lt_trans (lW (st, o) (updF_mem U)) lR.1)
  refine for_listG (D := lt) (vs := lvs.toArray) (nc := lvs.length) rfl rfl rfl rfl
    (fun (i : Nat) (gs : Array GenState) (m' : Str → Option Value) (nw : List (Addr × Obj)) => gs = s.gens ∧ m' (Str.ofString "state") = some (.ref st) ∧ m' (Str.ofString "strict") = some (.bool b) ∧ m' (Str.ofString "written") = some (.ref Wr) ∧ m' (Str.ofString "read") = some (.ref Rd) ∧
      ∃ (oc : Obj) (ws rs : List Value) (nw1 nr1 : Nat) (qs : List Bool), qs.length = i ∧ (∀ (j : Nat) (q : Bool) (t : List Nat), qs[j]? = some q → ts[j]? = some t → q = false → ∀ c ∈ t, c ≠ 44 ∧ c ≠ 59 ∧ c ≠ 58 ∧ c ≠ 10) ∧ StrsAre ws ((List.zipWith wrP qs (ts.take i)).map S) ∧ StrsAre rs (List.zipWith (rdP b) qs (ts.take i)) ∧ StObj sc oc ∧ nw = (Wr, listOf ws.toArray nw1) :: (Rd, listOf rs.toArray nr1) :: g oc)
    ?hJm F1 (news₀ := (Wr, listOf ([] : List Value).toArray 0) :: (Rd, listOf ([] : List Value).toArray 0) :: g o) ?N0 ?J0 ?hread ?turn ?done (fun _ => rfl)
  case turn =>
    rintro i v h tk gs m' nw I oI htk hv ⟨rfl, hm1, hm2, hm3, hm4, oc, ws, rs, nw1, nr1, qs, hql, hqf, hws, hrs, hSc, rfl⟩ F2 N2 hnI
    have hws0 : TEnd (StrsAre ws ((List.zipWith wrP qs (ts.take i)).map S)) := ⟨hws⟩
    have hrs0 : TEnd (StrsAre rs (List.zipWith (rdP b) qs (ts.take i))) := ⟨hrs⟩
    have hit : i < ts.length := by
      have := (Array.getElem?_eq_some_iff.mp hv).1
      simp at this; omega
    have hwl : ws.length ≤ 4 := by rw [strs_len hws, List.length_map, List.length_zipWith]; omega
    have hrl : rs.length ≤ 4 := by rw [strs_len hrs, List.length_zipWith]; omega
    clear hws hrs
    have hltW : ∀ oc', ∀ p ∈ g oc', p.1 < Wr := fun oc' p hp => by
      obtain ⟨q9, h9⟩ := upd_addr U oc' p hp
      exact lW (p.1, q9) h9
    replace F2 : Fr g' L' h _ := F2
    replace N2 : News g' L' h _ := N2
    obtain ⟨li, ys, tx, rfl, hli, hti, hys⟩ := htx i v (by simpa using hv)
    have hys0 : TEnd (StrsAre ys (tx.map fun c => S [c])) := ⟨hys⟩
    clear hys
    have hlist : li ≠ st := by
      obtain ⟨i0, x, ti, tx', n, _, _, _, _, e⟩ := hS
      exact news_ne N (oa := LCg.lst ys) (ob := o) hli (updF_mem U) (by
        rw [e]
        intro q
        have q1 := congrArg Obj.data q
        injection q1 with q2
        have q3 : ys = [.ref sc, .int i0 ti, .int x tx'] := by simpa using congrArg Array.toList q2
        have q4 := hys0.out
        rw [q3] at q4
        obtain ⟨_, _, _, q5⟩ := strs_at q4 0 _ rfl
        cases q5)
    have hlig : ∀ oc, (li, LCg.lst ys) ∈ g oc := updF_other U hli hlist
    have hIst : @Ne Nat I st := fun e => hnI (st, oc) (.tail _ (.tail _ (updF_self U oc))) e.symm
    have UI : ∀ (ows ors : Obj) oc, UpdF st oc ((I, oI) :: (Wr, ows) :: (Rd, ors) :: g oc) (fun x => (I, oI) :: (Wr, ows) :: (Rd, ors) :: g x) := fun ows ors oc' => .tail hIst (.tail hWst (.tail hRst (updF_again U oc')))
    refine execs_cut (h₀ := g') (L := L') (fun m2 nw => ∃ q oc2, (q = false → ∀ c ∈ tx, c ≠ 44 ∧ c ≠ 59 ∧ c ≠ 58 ∧ c ≠ 10) ∧ StObj sc oc2 ∧ m2 = (fun y => if y = Str.ofString "quoted" then some (.bool q) else if y = Str.ofString "text" then some (.ref li) else m' y) ∧ nw = (I, oI) :: (Wr, listOf ws.toArray nw1) :: (Rd, listOf rs.toArray nr1) :: g oc2) ?_ ?_
    · k_steps
      refine TEnd.mk ?_
      refine next_c B' F2 X' N2 T' (UI _ _ oc) hSc (by simp only [List.mem_cons]; exact .inr (.inr (.inr (updF_other U hsc hne oc)))) hI hl hne (by decide) (by decide) (by show dp + 1 + 20 < _; omega) (by show un + 3 + 400 < _; omega) ?_
      intro r t1 o1 h5 tk5 hr0 hr2 hS1 F3 N3
      dsimp only at N3 ⊢
      k_steps
      · have h0 : r = 0 := by assumption
        refine TEnd.mk ⟨trivial, _, _, _, _, rfl, by assumption, by assumption, true, o1, (fun e => nomatch e), hS1, ?_, rfl⟩
        rw [h0]; rfl
      refine TEnd.mk ?_
      refine LCt.ListComp_T (F₀ := F3) (by with_unfolding_all rfl) (by decide) (by rfl) (by decide) (by rfl) ?_
      k_steps
      refine TEnd.mk ?_
      have hyl : ys.toArray.size = tx.length := by rw [List.size_toArray, strs_len hys0.out, List.length_map]
      have htxl : tx.length ≤ 4 := htn tx (List.mem_of_getElem? hti)
      have hbad : Str.ofString ",;:\n" = S [44, 59, 58, 10] := by decide +kernel
      refine LCt.CompSrcT.ledger rfl F3 N3 (.tail _ (.tail _ (.tail _ (hlig o1)))) (by rw [hyl, PySem.sizeLine_eq]; omega) fun gg => ?_
      refine restT_inv (n := ys.toArray.size) (fun i2 zs nw => ∃ zc : List Nat, nw = (I, oI) :: (Wr, listOf ws.toArray nw1) :: (Rd, listOf rs.toArray nr1) :: g o1 ∧ StrsAre zs (zc.map fun c => S [c]) ∧ (∀ c ∈ zc, c ∈ tx) ∧ (zc = [] → ∀ c ∈ tx.take i2, c ≠ 44 ∧ c ≠ 59 ∧ c ≠ 58 ∧ c ≠ 10)) ?_ ?_ _ 0 [] _ (Nat.zero_add _) ⟨[], rfl, .nil, (fun _ h => nomatch h), fun _ c hc => by simp at hc⟩
      · rintro i2 zs nw v2 I2 oI2 C2 oC2 D2 m₂ h6 tk6 E' hi2 ⟨zc, rfl, hzc, hzm, hz⟩ hv2 hC2 hx2 F5 N5 off ne
        have hzc0 : TEnd (StrsAre zs (zc.map fun c => S [c])) := ⟨hzc⟩
        clear hzc
        obtain ⟨q2, tq2, hq2, rfl⟩ := strs_at hys0.out i2 v2 (by simpa using hv2)
        obtain ⟨c2, hc2, rfl⟩ : ∃ c, tx[i2]? = some c ∧ q2 = S [c] := by
          rw [List.getElem?_map] at hq2
          cases e : tx[i2]? with
          | none => rw [e] at hq2; cases hq2
          | some c => rw [e] at hq2; exact ⟨c, rfl, (Option.some.inj hq2).symm⟩
        have htk2 : tx.take (i2 + 1) = tx.take i2 ++ [c2] := by rw [List.take_add_one, hc2]; rfl
        k_steps
        · have ho := (by assumption : (Builtin.Str.occurrences (Str.ofString ",;:\n") (S [c2]) 0 (Str.ofString ",;:\n").length 1).isEmpty = true)
          rw [hbad, occ_S] at ho
          refine LCg.CompEnd.intro F5 N5 _ (fun p hp => hp) off (.inr ⟨_, .tail _ (.tail _ (.tail _ (hlig o1))), rfl, _, rfl⟩) ⟨zc, rfl, hzc0.out, hzm, fun e c hc => ?_⟩
          rw [htk2] at hc
          rcases List.mem_append.mp hc with hc | hc
          · exact hz e c hc
          · rw [List.mem_singleton.mp hc]
            simpa using ho
        · refine LCg.CompEnd.intro F5 N5 _ (fun p hp => hp) off (.inr ⟨_, .tail _ (.tail _ (.tail _ (hlig o1))), rfl, _, rfl⟩) ⟨zc ++ [c2], rfl, by rw [List.map_append]; exact strs_snoc1 hzc0.out, ?_, fun e => by simp at e⟩
          intro c hc
          rcases List.mem_append.mp hc with hc | hc
          · exact hzm c hc
          · rw [List.mem_singleton.mp hc]; exact List.mem_of_getElem? hc2
      · rintro zs nw ⟨zc, rfl, hzc, hzm, hz⟩
        have hzc0 : TEnd (StrsAre zs (zc.map fun c => S [c])) := ⟨hzc⟩
        clear hzc
        rw [hyl, List.take_length] at hz
        intro D2 h6 tk6 F5 N5 off5
        k_steps
        refine TEnd.mk ?_
        rename_i D3 h7 F6 N6 lt6
        refine ne_strs (xs := zs) (ys := []) (ns := zc.map fun c => S [c]) (ms := []) ⟨_, (N6 _ (.tail _ (.head _))).1, rfl, _, rfl⟩ ⟨_, (N6 _ (.head _)).1, rfl, _, rfl⟩ hzc0.out .nil (fun x hx => ?_) (fun _ h => nomatch h) (by show un + 3 + 64 < cLine; omega) ?_
        · obtain ⟨c, hc, rfl⟩ := List.mem_map.mp hx
          simp [PyData.strOk, S, htc tx (List.mem_of_getElem? hti) c (hzm c hc)]
        have hq : (!decide ((zc.map fun c => S [c]) = [])) = false → ∀ c ∈ tx, c ≠ 44 ∧ c ≠ 59 ∧ c ≠ 58 ∧ c ≠ 10 := fun e => hz (by simpa using e)
        generalize (!decide ((zc.map fun c => S [c]) = [])) = q at hq ⊢
        k_steps
        refine TEnd.mk ⟨trivial, _, _, _, _, rfl, by assumption, fun p hp => (by assumption : News g' L' _ _) p ?_, q, o1, hq, hS1, rfl, rfl⟩
        exact .tail _ (.tail _ hp)
    clear F2 N2
    rintro h2 tk2 m2 nw2 F2 N2 ⟨q, oc2, hq, hSc2, rfl, rfl⟩
    dsimp only
    refine execs_cut (h₀ := g') (L := L') (fun m3 nw => ∃ t3, m3 = (fun y => if y = Str.ofString "out" then some (.str (S (escP tx)) t3) else if y = Str.ofString "quoted" then some (.bool q) else if y = Str.ofString "text" then some (.ref li) else m' y) ∧ nw = (I, oI) :: (Wr, listOf ws.toArray nw1) :: (Rd, listOf rs.toArray nr1) :: g oc2) ?_ ?_
    · k_steps
      refine TEnd.mk ?_
      refine LCg.ListComp_U (F₀ := F2) (by with_unfolding_all rfl) (by decide) (by rfl) (by decide) (by rfl) ?_
      k_steps
      refine TEnd.mk ?_
      refine LCg.CompSrc.ledger rfl F2 N2 (.tail _ (.tail _ (.tail _ (hlig oc2)))) (by rw [List.size_toArray, strs_len hys0.out, List.length_map, PySem.sizeLine_eq]; have := htn tx (List.mem_of_getElem? hti); omega) fun gg => ?_
      refine rest_inv (n := ys.toArray.size) (fun i2 zs nw => nw = (I, oI) :: (Wr, listOf ws.toArray nw1) :: (Rd, listOf rs.toArray nr1) :: g oc2 ∧ StrsAre zs ((tx.take i2).map fun c => S (escC c))) ?_ ?_ _ 0 [] _ (Nat.zero_add _) ⟨rfl, .nil⟩
      · rintro i2 zs nw v2 I2 oI2 C2 oC2 D2 m₂ h6 tk6 E' hi2 ⟨rfl, hzs⟩ hv2 hC2 hx2 F5 N5 off ne
        have hzs0 : TEnd (StrsAre zs ((tx.take i2).map fun c => S (escC c))) := ⟨hzs⟩
        clear hzs
        obtain ⟨q2, tq2, hq2, rfl⟩ := strs_at hys0.out i2 v2 (by simpa using hv2)
        obtain ⟨c2, hc2, rfl⟩ : ∃ c, tx[i2]? = some c ∧ q2 = S [c] := by
          rw [List.getElem?_map] at hq2
          cases e : tx[i2]? with
          | none => rw [e] at hq2; cases hq2
          | some c => rw [e] at hq2; exact ⟨c, rfl, (Option.some.inj hq2).symm⟩
        have htk2 : tx.take (i2 + 1) = tx.take i2 ++ [c2] := by rw [List.take_add_one, hc2]; rfl
        dsimp only
        k_steps
        dsimp only at *
        have hv9 := (by assumption : PyProof.V.Flat _ _)
        rw [get3] at hv9
        obtain ⟨t9, rfl⟩ := flat_str hv9
        refine LCg.CompEnd.intro (by assumption) (by assumption) ((I, oI) :: (Wr, listOf ws.toArray nw1) :: (Rd, listOf rs.toArray nr1) :: g oc2) (fun p hp => .tail _ hp) off (.inr ⟨_, .tail _ (.tail _ (.tail _ (hlig oc2))), rfl, _, rfl⟩) ⟨rfl, ?_⟩
        rw [htk2, List.map_append]
        exact strs_snoc1 hzs0.out
      · rintro zs nw ⟨rfl, hzs⟩
        have hyl : ys.toArray.size = tx.length := by rw [List.size_toArray, strs_len hys0.out, List.length_map]
        rw [hyl, List.take_length] at hzs
        have hzs0 : TEnd (StrsAre zs (tx.map fun c => S (escC c))) := ⟨hzs⟩
        clear hzs
        intro D2 h6 tk6 F5 N5 off5
        dsimp only
        k_steps
        refine TEnd.mk ?_
        have hj : Txt.join (Str.ofString "") (tx.map fun c => S (escC c)) = S (escP tx) := by
          have := join_flat (tx.map escC)
          rw [List.map_map] at this
          exact this
        refine join_listW (items := zs.toArray) ⟨_, (N5 _ (.head _)).1, rfl, _, rfl⟩ hzs0.out (by decide +kernel) (esc_sum (htn tx (List.mem_of_getElem? hti))) ?_
        intro t9 k9
        rw [hj]
        dsimp only
        k_steps
        refine TEnd.mk ⟨trivial, _, _, _, _, rfl, by assumption, fun p hp => (by assumption : News g' L' _ _) p ?_, t9, rfl, rfl⟩
        exact .tail _ hp
    clear F2 N2
    rintro h3 tk3 m3 nw3 F3 N3 ⟨t3, rfl, rfl⟩
    dsimp only
    have hol : (S (escP tx)).length ≤ 8 := by rw [S_len]; have := escP_len tx; have := htn tx (List.mem_of_getElem? hti); omega
    refine execs_cut (h₀ := g') (L := L') (fun m4 nw => m4 = (fun y => if y = Str.ofString "out" then some (.str (S (escP tx)) t3) else if y = Str.ofString "quoted" then some (.bool q) else if y = Str.ofString "text" then some (.ref li) else m' y) ∧ ∃ t4 nw2, nw = (I, oI) :: (Wr, listOf (ws ++ [Value.str (S (wrP q tx)) t4]).toArray nw2) :: (Rd, listOf rs.toArray nr1) :: g oc2) ?_ ?_
    · have UW : UpdF Wr (listOf ws.toArray nw1) ((I, oI) :: (Wr, listOf ws.toArray nw1) :: (Rd, listOf rs.toArray nr1) :: g oc2) (fun x => (I, oI) :: (Wr, x) :: (Rd, listOf rs.toArray nr1) :: g oc2) :=
        .tail (Ne.symm (hnI (Wr, listOf ws.toArray nw1) (by simp))) (.head fun p hp => by
          rcases List.mem_cons.mp hp with h | h
          · rw [h]; exact Nat.ne_of_gt lR.1
          · exact Nat.ne_of_lt (hltW oc2 p h))
      have hq34 : Str.ofString "\"" = S [34] := by decide +kernel
      k_steps
      · have hq9 : q = true := by assumption
        refine append_l F3 N3 UW (by simp; omega) ?_
        intro h4 F4 N4
        dsimp only
        obtain ⟨t4, N4'⟩ : ∃ t4, News g' L' h4 ((I, oI) :: (Wr, listOf (ws ++ [Value.str (S (wrP q tx)) t4]).toArray (nw1 + 1)) :: (Rd, listOf rs.toArray nr1) :: g oc2) := by
          rw [List.push_toArray, hq34, S_app, S_app] at N4
          exact ⟨_, by rw [hq9]; exact N4⟩
        exact TEnd.mk ⟨trivial, h4, _, _, _, rfl, F4, N4', rfl, t4, nw1 + 1, rfl⟩
      · have hq9 : q = false := by assumption
        refine append_l F3 N3 UW (by simp; omega) ?_
        intro h4 F4 N4
        dsimp only
        obtain ⟨t4, N4'⟩ : ∃ t4, News g' L' h4 ((I, oI) :: (Wr, listOf (ws ++ [Value.str (S (wrP q tx)) t4]).toArray (nw1 + 1)) :: (Rd, listOf rs.toArray nr1) :: g oc2) := by
          rw [List.push_toArray] at N4
          exact ⟨_, by rw [hq9]; exact N4⟩
        exact TEnd.mk ⟨trivial, h4, _, _, _, rfl, F4, N4', rfl, t4, nw1 + 1, rfl⟩
    clear F3 N3
    rintro h4 tk4 m4 nw4 F4 N4 ⟨rfl, t4, nw2, rfl⟩
    dsimp only
    have hjo : Txt.join (Str.ofString "") (tx.map fun c => S [c]) = S tx := join_ones tx
    have htl4 : tx.length ≤ 4 := htn tx (List.mem_of_getElem? hti)
    have htxs : (S tx).length ≤ 4 := by rw [S_len]; exact htl4
    have UR : UpdF Rd (listOf rs.toArray nr1) ((I, oI) :: (Wr, listOf (ws ++ [Value.str (S (wrP q tx)) t4]).toArray nw2) :: (Rd, listOf rs.toArray nr1) :: g oc2) (fun x => (I, oI) :: (Wr, listOf (ws ++ [Value.str (S (wrP q tx)) t4]).toArray nw2) :: (Rd, x) :: g oc2) :=
      .tail (Ne.symm (hnI (Rd, listOf rs.toArray nr1) (by simp))) (.tail (Nat.ne_of_lt lR.1) (.head fun p hp => Nat.ne_of_lt (Nat.lt_trans (hltW oc2 p hp) lR.1)))
    k_steps
    all_goals
      refine TEnd.mk ?_
      refine join_listW (items := ys.toArray) ⟨_, (N4 (li, LCg.lst ys) (.tail _ (.tail _ (.tail _ (hlig oc2))))).1, rfl, _, rfl⟩ hys0.out (by decide +kernel) (by rw [sum_ones, List.length_map]; omega) ?_
      intro t9 k9
      rw [hjo]
      dsimp only
      k_steps
      refine append_l F4 N4 UR (by simp; omega) ?_
      intro h5 F5 N5
      dsimp only
      k_steps
      have hrd : ∃ t5, News g' L' h5 ((I, oI) :: (Wr, listOf (ws ++ [Value.str (S (wrP q tx)) t4]).toArray nw2) :: (Rd, listOf (rs ++ [Value.str (rdP b q tx) t5]).toArray (nr1 + 1)) :: g oc2) := by
        rw [List.push_toArray] at N5
        first
            | (have hq9 : q = true := by assumption
               have e9 : rdP b q tx = S tx := by rw [hq9]; rfl
               rw [← e9] at N5; exact ⟨_, N5⟩)
            | (have hq9 : q = false := by assumption
               have hb9 : b = false := by assumption
               have e9 : rdP b q tx = S tx := by rw [hq9, hb9]; rfl
               rw [← e9] at N5; exact ⟨_, N5⟩)
            | (have hq9 : q = false := by assumption
               have hb9 : b = true := by assumption
               have e9 : rdP b q tx = Txt.upper (S tx) := by rw [hq9, hb9]; rfl
               rw [← e9] at N5; exact ⟨_, N5⟩)
      obtain ⟨t5, N5'⟩ := hrd
      refine ⟨⟨h5, _, s.gens, _, _, rfl, F5, N5', ?_, rfl, hm1, hm2, hm3, hm4, oc2, _, _, nw2, nr1 + 1, qs ++ [q], ?_, ?_, ?_, ?_, hSc2, rfl⟩⟩
      · intro p hp
        simp only [List.mem_cons] at hp
        rcases hp with h | h | h
        · rw [h]; exact hnI (Wr, listOf ws.toArray nw1) (by simp)
        · rw [h]; exact hnI (Rd, listOf rs.toArray nr1) (by simp)
        · obtain ⟨q9, h9⟩ := updF_addr U oc oc2 p h
          exact hnI (p.1, q9) (by simp [h9])
      · simp [hql]
      · intro j q' t' hj ht' hf
        by_cases hji : j < i
        · rw [List.getElem?_append_left (by omega)] at hj
          exact hqf j q' t' hj ht' hf
        · have hji2 : j = i := by
            have := (List.getElem?_eq_some_iff.mp hj).1
            simp at this; omega
          subst hji2
          rw [List.getElem?_append_right (by omega), hql, Nat.sub_self] at hj
          rw [hti] at ht'
          cases ht'
          simp at hj
          exact hq (hj ▸ hf)
      · have e9 : ts.take (i + 1) = ts.take i ++ [tx] := by rw [List.take_add_one, hti]; rfl
        rw [e9, List.zipWith_append (by simp; omega), List.map_append]
        exact strs_snoc1 hws0.out
      · have e9 : ts.take (i + 1) = ts.take i ++ [tx] := by rw [List.take_add_one, hti]; rfl
        rw [e9, List.zipWith_append (by simp; omega)]
        exact strs_snoc1 hrs0.out
  case hJm =>
    rintro i gs m' nw ⟨_, _, _, _, _, oc, ws, rs, nw1, nr1, qs, _, _, _, _, _, rfl⟩
    exact .tail _ (.tail _ (updF_other U hlt hltst oc))
  case N0 =>
    intro p hp
    refine N1 p ?_
    simp only [List.mem_cons] at hp ⊢
    rcases hp with h | h | h
    · simp [h]
    · simp [h]
    · rw [← updF_same U] at h; simp [h]
  case J0 => exact ⟨rfl, rfl, rfl, rfl, rfl, o, [], [], 0, 0, [], rfl, (fun _ _ _ h => by simp at h), by simp; exact .nil, by simp; exact .nil, hS, rfl⟩
  case hread => k_steps
  case done =>
    rintro h tk gs m' nw htk ⟨rfl, hm1, hm2, hm3, hm4, oc, ws, rs, nw1, nr1, qs, hql, hqf, hws, hrs, hSc, rfl⟩ F2 N2
    replace F2 : Fr g' L' h _ := F2
    replace N2 : News g' L' h _ := N2
    have hsz : lvs.toArray.size = ts.length := by simpa using hts
    rw [hsz] at hql
    rw [hsz, List.take_length] at hws hrs
    have hws0 : TEnd (StrsAre ws ((List.zipWith wrP qs ts).map S)) := ⟨hws⟩
    have hrs0 : TEnd (StrsAre rs (List.zipWith (rdP b) qs ts)) := ⟨hrs⟩
    have hrl : rs.length = ts.length := by rw [strs_len hrs, List.length_zipWith]; omega
    have hrz : rs.toArray.size ≤ 4 := by simp; omega
    clear hws hrs
    dsimp only
    k_steps
    refine TEnd.mk ?_
    refine join_listW (items := ws.toArray) ⟨_, (N2 _ (.head _)).1, rfl, _, rfl⟩ hws0.out (by decide +kernel) ?hsum ?_
    case hsum =>
      have h1 := sum_le10 (l := List.zipWith wrP qs ts) (wr_len htn)
      have h2 : (List.zipWith wrP qs ts).length ≤ 4 := by rw [List.length_zipWith]; omega
      rw [List.length_map]; omega
    intro t9 k9
    dsimp only
    k_steps
    · refine TEnd.mk ?_
      have h1 : ts.length = 1 := by
        have := (by assumption : ((rs.toArray.size : Nat) : Int) = 1)
        simp at this; omega
      obtain ⟨y0, ty, hy, hv⟩ := strs_at hrs0.out 0 rs[0] (List.getElem?_eq_getElem (by omega))
      have hl : h.IsList Rd rs.toArray := ⟨_, (N2 _ (.tail _ (.head _))).1, rfl, _, rfl⟩
      refine tail_any (Heap.IsList.typeIs hl) slot_list_getitem.lookup (wpAny_getItem_list hl (by decide) (by decide) ((List.getElem?_toArray ..).trans (List.getElem?_eq_getElem (by show 0 < rs.length; omega))) ?_) (by with_unfolding_all rfl)
      show wpAny _ _ _ _ _ _
      have hv' : rs[(0 : Int).toNat]'(by show 0 < rs.length; omega) = Value.str y0 ty := hv
      rw [hv']
      k_steps
      refine hret _ Rd qs t9 (.str y0 ty) rs nr1 oc _ _ hql hqf hSc (by assumption) (fun p hp => (by assumption : News h₀ L _ ((_, _) :: _)) p ?_) (fun p hp => ?_) ?_
      · simp only [List.mem_cons] at hp ⊢
        rcases hp with h | h | h <;> simp [h]
      · obtain ⟨q9, h9⟩ := upd_addr U oc p hp
        exact Nat.lt_trans (lW (p.1, q9) h9) lR.1
      · have hz : List.zipWith (rdP b) qs ts = [y0] := by
          have hzl : (List.zipWith (rdP b) qs ts).length = 1 := by rw [List.length_zipWith]; omega
          obtain ⟨z, hz⟩ := List.length_eq_one_iff.mp hzl
          rw [hz] at hy ⊢
          simp at hy
          rw [hy]
        rw [hz]
        exact ⟨ty, rfl⟩
    · have h1 : ts.length ≠ 1 := by
        have := (by assumption : ((rs.toArray.size : Nat) : Int) ≠ 1)
        simp at this; omega
      refine hret _ Rd qs t9 (.ref Rd) rs nr1 oc _ _ hql hqf hSc (by assumption) (fun p hp => (by assumption : News h₀ L _ ((_, _) :: _)) p ?_) (fun p hp => ?_) ?_
      · simp only [List.mem_cons] at hp ⊢
        rcases hp with h | h | h <;> simp [h]
      · obtain ⟨q9, h9⟩ := upd_addr U oc p hp
        exact Nat.lt_trans (lW (p.1, q9) h9) lR.1
      · have hzl : (List.zipWith (rdP b) qs ts).length ≠ 1 := by rw [List.length_zipWith]; omega
        have hr := hrs0.out
        generalize List.zipWith (rdP b) qs ts = zw at hzl hr ⊢
        have e9 : uvL zw = .many zw := by
          match zw, hzl with
          | [], _ => rfl
          | _ :: _ :: _, _ => rfl
        rw [e9]
        exact ⟨Rd, rs, nr1, rfl, .head _, hr⟩
end Lval
end Mine
end
/-! part Menus -/
section
theorem Mine.startMenus : True := by
  w_top off
  exact trivial
open PySem PySem.W PyProof.Rows PySem.Calls PySem.Spec
set_option Elab.async false
set_option maxRecDepth 100000
namespace Mine
/-- the marks' codes -/
def marks : List Nat := [97, 110, 44, 59, 58, 39, 10, 34, 233, 37, 94, 66]
/-- the signs' codes -/
def signsL : List Nat := [97, 110, 44, 59, 58, 92, 10, 34, 233, 32]
def codesOf : List Value → List Str
  | [] => []
  | .str x _ :: r => x :: codesOf r
  | _ :: r => codesOf r
def allStr : List Value → Bool
  | [] => true
  | .str _ _ :: r => allStr r
  | _ :: _ => false
theorem strs_codes : ∀ l : List Value, allStr l = true → StrsAre l (codesOf l)
  | [], _ => .nil
  | .str x t :: r, h => .cons x t (strs_codes r h)
theorem menuM {P : Params} {h : Heap} (X : (K0 P).In h) : ∃ menu, h.IsList 401 (List.toArray menu) ∧ StrsAre menu (marks.map fun c => S [c]) := by
  refine ⟨_, ⟨_, X 401 _ rfl, rfl, _, rfl⟩, ?_⟩
  refine Eq.mp (congrArg (StrsAre _) ?_) (strs_codes _ rfl)
  decide +kernel
theorem menuS {P : Params} {h : Heap} (X : (K0 P).In h) : ∃ menu, h.IsList 400 (List.toArray menu) ∧ StrsAre menu (signsL.map fun c => S [c]) := by
  refine ⟨_, ⟨_, X 400 _ rfl, rfl, _, rfl⟩, ?_⟩
  refine Eq.mp (congrArg (StrsAre _) ?_) (strs_codes _ rfl)
  decide +kernel
end Mine
end
/-! part LawA -/
section
theorem Mine.startLawA : True := by
  w_top off
  exact trivial
local macro_rules | `(tactic| walk_at "pad0") => `(tactic| skip)
local macro_rules | `(tactic| walk_at "pad1") => `(tactic| skip)
local macro_rules | `(tactic| walk_at "pad2") => `(tactic| skip)
local macro_rules | `(tactic| walk_at "pad3") => `(tactic| skip)
local macro_rules | `(tactic| walk_at "pad4") => `(tactic| skip)
local macro_rules | `(tactic| walk_at "pad5") => `(tactic| skip)
local macro_rules | `(tactic| walk_at "pad6") => `(tactic| skip)
local macro_rules | `(tactic| walk_at "pad7") => `(tactic| skip)
local macro_rules | `(tactic| walk_at "pad8") => `(tactic| skip)
local macro_rules | `(tactic| walk_at "pad9") => `(tactic| skip)
local macro_rules | `(tactic| walk_at "pad10") => `(tactic| skip)
local macro_rules | `(tactic| walk_at "pad11") => `(tactic| skip)
local macro_rules | `(tactic| walk_at "pad12") => `(tactic| skip)
local macro_rules | `(tactic| walk_at "pad13") => `(tactic| skip)
open PySem PySem.W PyProof.Rows PySem.Calls PySem.Spec
set_option Elab.async false
set_option maxRecDepth 100000
namespace Mine
noncomputable def LB (P : Params) : List Stmt := match (fdAt (K0 P) 423).body with | .stmts b => b | _ => []
noncomputable def LS (P : Params) : Scope := (fdAt (K0 P) 423).scope
/-- the law from its k-th statement on -/
structure LawAt (w : World) (k : Nat) (L f : Addr) (cd : Value) (Q : Flow → Shared → Prop) (E : Value → Shared → Prop) (s : Shared) : Prop where
  out : wpAny (model PySem.Challenge.rw_bl0007_01.row.prog w) (callerA.deeper (envOfC (Str.ofString "law") (LS w.params) L f cd)) (execs ((LB w.params).drop k) (envOfC (Str.ofString "law") (LS w.params) L f cd)) Q E s
/-- the law's objects -/
def P1 (L : Addr) (oA oB : Obj) (_m : Str → Option Value) (nw : List (Addr × Obj)) : Prop :=
  ∃ (st sc : Addr) (ws : List Value) (us : List Int) (n2 : Nat) (o oc : Obj), nw = (st, o) :: (sc, listOf ws.toArray n2) :: (L + 1 + 1 + 1, oA) :: (L + 1 + 1, oB) :: (L + 1, oc) :: (216, tabObj #[]) :: (354, tabObj #[]) :: [] ∧ StObj sc o ∧ IntsAre ws us ∧ us.length ≤ 30 ∧ oc.data = .cell (some (.ref st)) ∧ (@Ne Nat sc st) ∧ (∀ p ∈ (sc, listOf ws.toArray n2) :: (L + 1 + 1 + 1, oA) :: (L + 1 + 1, oB) :: (L + 1, oc) :: (216, tabObj #[]) :: (354, tabObj #[]) :: [], p.1 ≠ st)
section Law1
local macro_rules | `(tactic| k_room) => `(tactic| ktr_room)
local macro_rules | `(tactic| k_units) => `(tactic| ktr_units)
local macro_rules | `(tactic| k_all) => `(tactic| assumption)
set_option pp.deepTerms false
set_option pp.maxSteps 2000
set_option maxHeartbeats 4000000 in
theorem law_s1 {w : World} {mean : ExcName → Option Value} {mg mb : Str → Option Value} {h₀ : Heap} {L f : Addr} {cd : Value} {s : Shared}
    {E : Value → Shared → Prop} {scr : Addr} {vs : List Value} {ns : List Int} {oA oB oC : Obj}
    (B : Below callerA h₀ [] h₀) (X : (K0 w.params).In h₀) (T : Top hd.view_39 loos mean mg mb h₀)
    (F : Fr h₀ L s.heap (fun y => if y = Str.ofString "script" then some (.ref scr) else none)) (N : News h₀ L s.heap [(L + 1 + 1 + 1, oA), (L + 1 + 1, oB), (L + 1, oC), (216, tabObj #[]), (354, tabObj #[])]) (dA : oA.data = .cell none) (dB : oB.data = .cell none) (dC : oC.data = .cell none)
    (hL : h₀.IsList scr vs.toArray) (hI : IntsAre vs ns) (hlay : (PyData.list (List.map PyData.int ns)).layable0 = true) (hc : ¬ ((63 : Nat) : Int) < ((ns.length : Nat) : Int)) (hT2 : (216 : Addr) < L ∧ (354 : Addr) < L) :
    wpAny (model PySem.Challenge.rw_bl0007_01.row.prog w) (callerA.deeper (envOfC (Str.ofString "law") (LS w.params) L f cd)) (exec ((LB w.params).headD (.Pass default)) (envOfC (Str.ofString "law") (LS w.params) L f cd)) (fun fl s' => TEnd (fl = .next ∧ Mid h₀ L s (P1 L oA oB) s')) E s := by
  revert X; k_fill; intro X
  show wpAny _ (Around.deeper _ (envOfC _ ⟨_, _, _, _, _⟩ _ _ _)) (exec (Stmt.Assign _ _ _) (envOfC _ ⟨_, _, _, _, _⟩ _ _ _)) _ _ _
  k_steps
  rename_i sc ws hh1 hI1 hC1 hL1 l1 st hh2 F2 N2 l2
  have c1 : ∀ d : Addr, L + 1 < d → d ≠ L + 1 := fun d h => Nat.ne_of_gt h
  refine storeX_C (c := L + 1) (g := fun x => [(st, listOf #[.ref sc, .int 0 (s.toks + 1), .int 17 (s.toks + 1 + 1)] 0), (sc, listOf ws.toArray 0), (L + 1 + 1 + 1, oA), (L + 1 + 1, oB), (L + 1, x), (216, tabObj #[]), (354, tabObj #[])]) F2 N2 rfl
    (updF_of (pre := [(st, listOf #[.ref sc, .int 0 (s.toks + 1), .int 17 (s.toks + 1 + 1)] 0), (sc, listOf ws.toArray 0), (L + 1 + 1 + 1, oA), (L + 1 + 1, oB)]) (fun _ => rfl) ?hpre1 ?hpost1) dC ?_ rfl rfl
  case hpre1 =>
    intro p hp
    simp only [List.mem_cons, List.not_mem_nil, or_false] at hp
    rcases hp with h | h | h | h <;> rw [h]
    · exact c1 _ l2.2.2.2.1
    · exact c1 _ l1.2.2.1
    · exact c1 _ (Nat.lt_succ_of_lt (Nat.lt_succ_self _))
    · exact c1 _ (Nat.lt_succ_self _)
  case hpost1 =>
    intro p hp
    simp only [List.mem_cons, List.not_mem_nil, or_false] at hp
    rcases hp with h | h <;> rw [h]
    · exact Nat.ne_of_lt (Nat.lt_succ_of_lt hT2.1)
    · exact Nat.ne_of_lt (Nat.lt_succ_of_lt hT2.2)
  intro h3 oc F3 N3 d3
  dsimp only
  refine TEnd.mk ⟨trivial, h3, _, _, _, rfl, F3, N3, st, sc, ws, List.take 30 ns, 0, _, oc, rfl, ⟨0, 17, _, _, 0, by omega, by omega, by omega, by omega, rfl⟩, hI1, by rw [List.length_take]; omega, d3, Nat.ne_of_lt l2.1, ?_⟩
  intro p hp
  simp only [List.mem_cons, List.not_mem_nil, or_false] at hp
  rcases hp with h | h | h | h | h | h <;> rw [h]
  · exact Nat.ne_of_lt l2.1
  · exact Nat.ne_of_lt l2.2.1
  · exact Nat.ne_of_lt l2.2.2.1
  · exact Nat.ne_of_lt l2.2.2.2.1
  · exact Nat.ne_of_lt l2.2.2.2.2.1
  · exact Nat.ne_of_lt l2.2.2.2.2.2
end Law1
theorem menu_item {prog : Program} {w : World} {A : Around} {E : Value → Shared → Prop} {s : Shared} {h₀ : Heap} {L D : Addr} {news : List (Addr × Obj)} {value slice : Expr} {vs : List Value} {xs : List Str} {n : Nat} {r : Int} {u : Tok} {Q : Value → Shared → Prop}
    (N : News h₀ L s.heap news) (hm : (D, listOf vs.toArray n) ∈ news) (hst : StrsAre vs xs) (h0 : 0 ≤ r) (hr : r < xs.length) (hx : xs.length < 1000) (h : ∀ x t, x ∈ xs → Q (.str x t) s)
    (hs : subscripted slice false (.ref D) (.int r u) = operate [.ref D, .int r u] (getItem (.ref D) (.int r u))) : wpAny (model prog w) A (subscriptTail value slice (.ref D) (.int r u)) Q E s := by
  have hl : s.heap.IsList D vs.toArray := ⟨_, (N _ hm).1, rfl, n, rfl⟩
  have hvl := strs_len hst
  have hr3 : r.toNat < vs.length := by omega
  obtain ⟨z, tz, hz, hv⟩ := strs_at hst r.toNat vs[r.toNat] (List.getElem?_eq_getElem hr3)
  refine tail_any (Heap.IsList.typeIs hl) slot_list_getitem.lookup (wpAny_getItem_list hl h0 (by omega) ((List.getElem?_toArray ..).trans (List.getElem?_eq_getElem hr3)) ?_) hs
  rw [hv]
  exact h z tz (List.mem_of_getElem? hz)
theorem lt_all {st sc c1 c2 c3 c4 c5 d : Addr} {o1 o2 o3 o4 o5 o6 o7 : Obj} (h : st < d ∧ sc < d ∧ c1 < d ∧ c2 < d ∧ c3 < d ∧ c4 < d ∧ c5 < d) : ∀ p ∈ (st, o1) :: (sc, o2) :: (c1, o3) :: (c2, o4) :: (c3, o5) :: (c4, o6) :: (c5, o7) :: [], p.1 < d := by
  intro p hp
  simp only [List.mem_cons, List.not_mem_nil, or_false] at hp
  rcases hp with e | e | e | e | e | e | e <;> rw [e]
  · exact h.1
  · exact h.2.1
  · exact h.2.2.1
  · exact h.2.2.2.1
  · exact h.2.2.2.2.1
  · exact h.2.2.2.2.2.1
  · exact h.2.2.2.2.2.2
def nmA : List Nat := [83, 117, 109, 109, 97, 114, 121]
def nmB : List Nat := [88, 45, 97, 46, 98]
def nmC : List Nat := [67, 79, 77, 77, 69, 78, 84, 95, 50]
/-- one parameter as the law writes it: its key, a blank in front of it, behind it, its values, in quotes or not -/
structure PD where
  key : List Nat
  b1 : Bool
  b2 : Bool
  qs : List Bool
  ts : List (List Nat)
def joinC : List (List Nat) → List Nat
  | [] => []
  | [x] => x
  | x :: y :: r => x ++ 44 :: joinC (y :: r)
def parT (sg : Nat) (p : PD) : List Nat := 59 :: ((if p.b1 then [sg] else []) ++ p.key ++ (if p.b2 then [sg] else []) ++ 61 :: joinC (List.zipWith wrP p.qs p.ts))
def kyA : List Nat := [88, 45, 80]
def kyB : List Nat := [114, 111, 108, 101]
def keyAt (i : Nat) : List Nat := if i = 0 then kyA else kyB
structure PDok (bl : Int) (i : Nat) (p : PD) : Prop where
  key : p.key = keyAt i
  b1 : p.b1 = decide (bl = 1 + 2 * (i : Int))
  b2 : p.b2 = decide (bl = 2 + 2 * (i : Int))
  len : p.qs.length = p.ts.length
  one : 1 ≤ p.ts.length
  two : p.ts.length ≤ 2
  short : ∀ t ∈ p.ts, t.length ≤ 4
  marks : ∀ t ∈ p.ts, ∀ c ∈ t, c ∈ marks
  plain : ∀ (j : Nat) (q : Bool) (t : List Nat), p.qs[j]? = some q → p.ts[j]? = some t → q = false → ∀ c ∈ t, c ≠ 44 ∧ c ≠ 59 ∧ c ≠ 58 ∧ c ≠ 10
def dueP (b : Bool) (p : PD) : Str × UV := (Txt.upper (S p.key), uvL (List.zipWith (rdP b) p.qs p.ts))
def outA (nm : List Nat) (bl : Int) (sg : Nat) (ps : List PD) : List Nat := nm ++ ((if bl = 0 then [sg] else []) ++ (ps.map (parT sg)).flatten)
abbrev LedA (st : Addr) (o : Obj) (sc : Addr) (ws : List Value) (n2 : Nat) (L : Addr) (oA oB oc : Obj) (ls : List (Addr × Obj)) : List (Addr × Obj) := (st, o) :: (sc, listOf ws.toArray n2) :: (L + 1 + 1 + 1, oA) :: (L + 1 + 1, oB) :: (L + 1, oc) :: ls
/-- lists, and the two code tables -/
def TabsIn (ls : List (Addr × Obj)) : Prop := (∀ p ∈ ls, (∃ (ys : Array Value) (n : Nat), p.2 = listOf ys n) ∨ p = (216, tabObj #[]) ∨ p = (354, tabObj #[])) ∧ (216, tabObj #[]) ∈ ls ∧ (354, tabObj #[]) ∈ ls
theorem TabsIn.cons {ls : List (Addr × Obj)} {b : Addr} {ys : Array Value} {n : Nat} (h : TabsIn ls) : TabsIn ((b, listOf ys n) :: ls) :=
  ⟨fun p hp => (List.mem_cons.mp hp).elim (fun e => .inl ⟨ys, n, by rw [e]⟩) (h.1 p), .tail _ h.2.1, .tail _ h.2.2⟩
theorem TabsIn.noCell {ls : List (Addr × Obj)} (h : TabsIn ls) {p : Addr × Obj} (hp : p ∈ ls) (v : Option Value) : p.2.data ≠ .cell v := fun q => by
  rcases h.1 p hp with ⟨ys, n, e⟩ | e | e <;> rw [e] at q <;> cases q
/-- the law's state while it writes the parameters -/
structure P5 (w : World) (L : Addr) (oA oB : Obj) (b : Bool) (nm : List Nat) (bl : Int) (sg : Nat) (ps : List PD) (m : Str → Option Value) (nw : List (Addr × Obj)) : Prop where
  strict : m (Str.ofString "strict") = some (.bool b)
  name : ∃ t, m (Str.ofString "name") = some (.str (S nm) t)
  nmOk : nm ∈ [nmA, nmB, nmC]
  bl0 : 0 ≤ bl
  bl8 : bl < 8
  blank : ∃ t, m (Str.ofString "blank") = some (.int bl t)
  sgOk : sg = 32 ∨ sg = 9
  sign : ∃ t, m (Str.ofString "sign") = some (.str (S [sg]) t)
  places : ∃ t, m (Str.ofString "places") = some (.int (1 + 2 * (ps.length : Int)) t)
  out : ∃ t, m (Str.ofString "out") = some (.str (S (outA nm bl sg ps)) t)
  good : ∀ (i : Nat) (p : PD), ps[i]? = some p → PDok bl i p
  led : ∃ (st sc : Addr) (ws : List Value) (us : List Int) (n2 : Nat) (o oc : Obj) (D : Addr) (od : Obj) (ls : List (Addr × Obj)) (kvs : List (Str × Value)), m (Str.ofString "due") = some (.ref D) ∧ nw = (D, od) :: LedA st o sc ws n2 L oA oB oc ls ∧ StObj sc o ∧ IntsAre ws us ∧ us.length ≤ 30 ∧ oc.data = .cell (some (.ref st)) ∧ (@Ne Nat sc st) ∧
    (∀ p ∈ (sc, listOf ws.toArray n2) :: (L + 1 + 1 + 1, oA) :: (L + 1 + 1, oB) :: (L + 1, oc) :: [], p.1 ≠ st) ∧ Obj.IsDictOf (PySem.strKind PySem.Challenge.rw_bl0007_01.row.prog w) od kvs ∧ UVals ls (ps.map (dueP b)) kvs ∧ (D == sysModules) = false ∧ (∀ p ∈ LedA st o sc ws n2 L oA oB oc ls, p.1 ≠ D) ∧ (∀ p ∈ ls, p.1 ≠ st) ∧ TabsIn ls
section Law
local macro_rules | `(tactic| walk_at "subscriptTail") => `(tactic| refine TEnd.out ?_)
local macro_rules | `(tactic| k_room) => `(tactic| ktr_room)
local macro_rules | `(tactic| k_units) => `(tactic| ktr_units)
local macro_rules | `(tactic| k_all) => `(tactic| assumption)
local macro_rules | `(tactic| walk_at "eval Name") => `(tactic| (k_here; k_dflt (refine' nameX_L ?F ?v ?_ ?a ?b; (case a => rfl); (case b => rfl); (case F => k_asm); (case v => first | exact rfl | assumption); k_whole)))
local macro_rules | `(tactic| walk_at "call ref") => `(tactic| refine TEnd.out ?_)
set_option pp.deepTerms false
set_option pp.maxSteps 2000
set_option maxHeartbeats 4000000 in
theorem law_a {w : World} {mean : ExcName → Option Value} {mg mb : Str → Option Value} {h₀ : Heap} {L f : Addr} {cd : Value} {s : Shared}
    {Q : Flow → Shared → Prop} {E : Value → Shared → Prop} {scr : Addr} {vs : List Value} {ns : List Int} {oA oB oC : Obj}
    (B : Below callerA h₀ [] h₀) (X : (K0 w.params).In h₀) (T : Top hd.view_39 loos mean mg mb h₀)
    (F : Fr h₀ L s.heap (fun y => if y = Str.ofString "script" then some (.ref scr) else none)) (N : News h₀ L s.heap [(L + 1 + 1 + 1, oA), (L + 1 + 1, oB), (L + 1, oC), (216, tabObj #[]), (354, tabObj #[])]) (dA : oA.data = .cell none) (dB : oB.data = .cell none) (dC : oC.data = .cell none)
    (hg : s.gens = #[]) (hL : h₀.IsList scr vs.toArray) (hI : IntsAre vs ns) (hlay : (PyData.list (List.map PyData.int ns)).layable0 = true) (hc : ¬ ((63 : Nat) : Int) < ((ns.length : Nat) : Int)) (hT2 : (216 : Addr) < L ∧ (354 : Addr) < L) (hk : ∀ b nm bl sg h6 tk6 m6 nw6, Fr h₀ L h6 m6 → News h₀ L h6 nw6 → P5 w L oA oB b nm bl sg [] m6 nw6 → LawAt w 5 L f cd Q E { s with heap := h6, toks := tk6 }) :
    LawAt w 0 L f cd Q E s := by
  refine ⟨?_⟩
  revert X; k_fill; intro X
  show wpAny _ (Around.deeper _ (envOfC _ ⟨_, _, _, _, _⟩ _ _ _)) (execs (_ :: _) (envOfC _ ⟨_, _, _, _, _⟩ _ _ _)) _ _ _
  refine execs_cut (h₀ := h₀) (L := L) (P1 L oA oB) ?_ ?_
  · exact law_s1 B X T F N dA dB dC hL hI hlay hc hT2
  rintro h2 tk2 m2 nw2 F2 N2 ⟨st, sc, ws, us, n2, o, oc, rfl, hS, hIw, hul, doc, hne, hst⟩
  clear F N hc hlay hI hL
  have hstU : ∀ o', UpdF st o' ((st, o') :: (sc, listOf ws.toArray n2) :: (L + 1 + 1 + 1, oA) :: (L + 1 + 1, oB) :: (L + 1, oc) :: (216, tabObj #[]) :: (354, tabObj #[]) :: []) (fun z => (st, z) :: (sc, listOf ws.toArray n2) :: (L + 1 + 1 + 1, oA) :: (L + 1 + 1, oB) :: (L + 1, oc) :: (216, tabObj #[]) :: (354, tabObj #[]) :: []) := fun o' => .head hst
  have nmsA : Str.ofString "Summary" = S nmA := by decide +kernel
  have nmsB : Str.ofString "X-a.b" = S nmB := by decide +kernel
  have nmsC : Str.ofString "COMMENT_2" = S nmC := by decide +kernel
  refine execs_cut (h₀ := h₀) (L := L) (fun m nw => (∃ b, m (Str.ofString "strict") = some (.bool b)) ∧ ∃ o', nw = (st, o') :: (sc, listOf ws.toArray n2) :: (L + 1 + 1 + 1, oA) :: (L + 1 + 1, oB) :: (L + 1, oc) :: (216, tabObj #[]) :: (354, tabObj #[]) :: [] ∧ StObj sc o') ?_ ?_
  · k_steps
    refine TEnd.mk ?_
    refine next_c B F2 X N2 T (hstU o) hS (.tail _ (.head _)) hIw hul hne (by decide) (by decide) (by decide) (by decide) ?_
    intro r t1 o1 h3 tk3 hr0 hr2 hS1 F3 N3
    dsimp only at N3 ⊢
    k_steps
    exact TEnd.mk ⟨trivial, _, _, _, _, rfl, by assumption, by assumption, ⟨_, rfl⟩, o1, rfl, hS1⟩
  clear F2 N2
  rintro h3 tk3 m3 nw3 F3 N3 ⟨⟨b, hb⟩, o3, rfl, hS3⟩
  refine execs_cut (h₀ := h₀) (L := L) (fun m nw => m (Str.ofString "strict") = some (.bool b) ∧ (∃ nm t, m (Str.ofString "name") = some (.str (S nm) t) ∧ nm ∈ [nmA, nmB, nmC]) ∧ ∃ o', nw = (st, o') :: (sc, listOf ws.toArray n2) :: (L + 1 + 1 + 1, oA) :: (L + 1 + 1, oB) :: (L + 1, oc) :: (216, tabObj #[]) :: (354, tabObj #[]) :: [] ∧ StObj sc o') ?_ ?_
  · k_steps
    rename_i l4 h4 F4 N4 lt4
    refine TEnd.mk ?_
    refine next_c B F4 X N4 T (.tail (Nat.ne_of_gt lt4.1) (hstU o3)) hS3 (.tail _ (.tail _ (.head _))) hIw hul hne (by decide) (by decide) (by decide) (by decide) ?_
    intro r t1 o1 h5 tk5 hr0 hr2 hS1 F5 N5
    dsimp only at N5 ⊢
    k_steps
    refine TEnd.mk ?_
    refine menu_item N5 (.head _) (.cons _ _ (.cons _ _ (.cons _ _ .nil))) hr0 (by simpa using hr2) (by decide) ?_ (by with_unfolding_all rfl)
    intro x tx hx
    obtain ⟨nm, rfl, hnm⟩ : ∃ nm, x = S nm ∧ nm ∈ [nmA, nmB, nmC] := by
      simp only [List.mem_cons, List.not_mem_nil, or_false] at hx
      rcases hx with h | h | h
      · exact ⟨nmA, h.trans nmsA, by simp⟩
      · exact ⟨nmB, h.trans nmsB, by simp⟩
      · exact ⟨nmC, h.trans nmsC, by simp⟩
    k_steps
    have F9 := (by assumption : Fr h₀ L _ (fun y => if y = Str.ofString "name" then _ else m3 y))
    refine TEnd.mk ⟨trivial, _, _, _, _, rfl, F9, fun p hp => (by assumption : News h₀ L _ ((l4, _) :: _)) p (.tail _ hp), hb, ⟨nm, tx, rfl, hnm⟩, o1, rfl, hS1⟩
  clear F3 N3 hb
  rintro h4 tk4 m4 nw4 F4 N4 ⟨hb, ⟨nm, tnm, hnm1, hnm⟩, o4, rfl, hS4⟩
  have hs32 : Str.ofString " " = S [32] := by decide +kernel
  have hs9 : Str.ofString "\t" = S [9] := by decide +kernel
  refine execs_cut (h₀ := h₀) (L := L) (fun m nw => m (Str.ofString "strict") = some (.bool b) ∧ m (Str.ofString "name") = some (.str (S nm) tnm) ∧ (∃ (bl : Int) (t1 : Tok), 0 ≤ bl ∧ bl < 8 ∧ m (Str.ofString "blank") = some (.int bl t1)) ∧ (∃ (sg : Nat) (t2 : Tok), (sg = 32 ∨ sg = 9) ∧ m (Str.ofString "sign") = some (.str (S [sg]) t2)) ∧ ∃ o', nw = (st, o') :: (sc, listOf ws.toArray n2) :: (L + 1 + 1 + 1, oA) :: (L + 1 + 1, oB) :: (L + 1, oc) :: (216, tabObj #[]) :: (354, tabObj #[]) :: [] ∧ StObj sc o') ?_ ?_
  · k_steps
    refine TEnd.mk ?_
    refine next_c B F4 X N4 T (hstU o4) hS4 (.tail _ (.head _)) hIw hul hne (by decide) (by decide) (by decide) (by decide) ?_
    intro bl t1 o1 h5 tk5 hb0 hb8 hS1 F5 N5
    dsimp only at N5 ⊢
    k_steps
    rename_i l6 h6 F6 N6 lt6
    refine TEnd.mk ?_
    refine next_c B F6 X N6 T (.tail (Nat.ne_of_gt lt6.1) (hstU o1)) hS1 (.tail _ (.tail _ (.head _))) hIw hul hne (by decide) (by decide) (by decide) (by decide) ?_
    intro r t2 o2 h7 tk7 hr0 hr2 hS2 F7 N7
    dsimp only at N7 ⊢
    k_steps
    refine TEnd.mk ?_
    refine menu_item N7 (.head _) (.cons _ _ (.cons _ _ .nil)) hr0 (by simpa using hr2) (by decide) ?_ (by with_unfolding_all rfl)
    intro x tx hx
    obtain ⟨sg, rfl, hsg⟩ : ∃ sg, x = S [sg] ∧ (sg = 32 ∨ sg = 9) := by
      simp only [List.mem_cons, List.not_mem_nil, or_false] at hx
      rcases hx with h | h
      · exact ⟨32, h.trans hs32, by simp⟩
      · exact ⟨9, h.trans hs9, by simp⟩
    k_steps
    have F9 := (by assumption : Fr h₀ L _ (fun y => if y = Str.ofString "blank" then _ else if y = Str.ofString "sign" then _ else m4 y))
    exact TEnd.mk ⟨trivial, _, _, _, _, rfl, F9, fun p hp => (by assumption : News h₀ L _ ((_, _) :: (l6, _) :: _)) p (.tail _ (.tail _ hp)), hb, hnm1, ⟨bl, t1, hb0, hb8, rfl⟩, ⟨sg, tx, hsg, rfl⟩, o2, rfl, hS2⟩
  clear F4 N4 hb hnm1
  rintro h5 tk5 m5 nw5 F5 N5 ⟨hb, hnm1, ⟨bl, tbl, hb0, hb8, hbl⟩, ⟨sg, tsg, hsg, hsg1⟩, o5, rfl, hS5⟩
  have hnl : (S nm).length ≤ 9 := by
    rw [S_len]
    simp only [List.mem_cons, List.not_mem_nil, or_false] at hnm
    rcases hnm with rfl | rfl | rfl <;> decide
  have hsl : (S [sg]).length ≤ 1 := by rw [S_len]; simp
  refine execs_cut (h₀ := h₀) (L := L) (fun m nw => m (Str.ofString "strict") = some (.bool b) ∧ m (Str.ofString "name") = some (.str (S nm) tnm) ∧ m (Str.ofString "blank") = some (.int bl tbl) ∧ m (Str.ofString "sign") = some (.str (S [sg]) tsg) ∧ (∃ t3, m (Str.ofString "places") = some (.int 1 t3)) ∧ (∃ t4, m (Str.ofString "out") = some (.str (S (nm ++ if bl = 0 then [sg] else [])) t4)) ∧
      ∃ D od, m (Str.ofString "due") = some (.ref D) ∧ nw = (D, od) :: (st, o5) :: (sc, listOf ws.toArray n2) :: (L + 1 + 1 + 1, oA) :: (L + 1 + 1, oB) :: (L + 1, oc) :: (216, tabObj #[]) :: (354, tabObj #[]) :: [] ∧ Obj.IsDictOf (PySem.strKind PySem.Challenge.rw_bl0007_01.row.prog w) od [] ∧ (D == sysModules) = false ∧ (∀ p ∈ (st, o5) :: (sc, listOf ws.toArray n2) :: (L + 1 + 1 + 1, oA) :: (L + 1 + 1, oB) :: (L + 1, oc) :: (216, tabObj #[]) :: (354, tabObj #[]) :: [], p.1 < D)) ?_ ?_
  · k_steps
    all_goals
      have F9 := (by assumption : Fr h₀ L _ (fun y => if y = Str.ofString "due" then some (.ref _) else if y = Str.ofString "out" then _ else if y = Str.ofString "places" then _ else m5 y))
      have hd9 := (by assumption : Obj.IsDictOf (PySem.strKind PySem.Challenge.rw_bl0007_01.row.prog w) _ [])
      have lo9 := (by assumption : (_ == sysModules) = false)
      have lt9 := (by assumption : st < _ ∧ sc < _ ∧ L + 1 + 1 + 1 < _ ∧ L + 1 + 1 < _ ∧ L + 1 < _ ∧ 216 < _ ∧ 354 < _)
      have lt9' := lt_all (o1 := o5) (o2 := listOf ws.toArray n2) (o3 := oA) (o4 := oB) (o5 := oc) (o6 := tabObj #[]) (o7 := tabObj #[]) lt9
    · have h0 : bl = 0 := by assumption
      exact TEnd.mk ⟨trivial, _, _, _, _, rfl, F9, fun p hp => (by assumption : News h₀ L _ ((_, _) :: (_, _) :: (st, _) :: _)) p (.tail _ hp), hb, hnm1, hbl, hsg1, ⟨_, rfl⟩, ⟨_, by rw [if_pos h0, ← S_app]; rfl⟩, _, _, rfl, rfl, hd9, lo9, lt9'⟩
    · have h0 : bl ≠ 0 := by assumption
      have he : S nm ++ Str.ofString "" = S nm := by
        rw [show Str.ofString "" = S [] from by decide +kernel, S_app, List.append_nil]
      exact TEnd.mk ⟨trivial, _, _, _, _, rfl, F9, fun p hp => (by assumption : News h₀ L _ ((_, _) :: (_, _) :: (st, _) :: _)) p (.tail _ hp), hb, hnm1, hbl, hsg1, ⟨_, rfl⟩, ⟨_, by rw [if_neg h0, List.append_nil, ← he]; rfl⟩, _, _, rfl, rfl, hd9, lo9, lt9'⟩
  rintro h6 tk6 m6 nw6 F6 N6 ⟨hb, hnm1, hbl, hsg1, ⟨tpl, hpl⟩, ⟨tou, hou⟩, D, od, hdu, rfl, hod, hDs, hDlt⟩
  clear F5 N5
  obtain ⟨h99⟩ := hk b nm bl sg h6 tk6 m6 _ F6 N6 ⟨hb, ⟨tnm, hnm1⟩, hnm, hb0, hb8, ⟨tbl, hbl⟩, hsg, ⟨tsg, hsg1⟩, ⟨tpl, hpl⟩, ⟨tou, by rw [hou]; simp [outA]⟩, (fun i p h => by simp at h), st, sc, ws, us, n2, o5, oc, D, od, [(216, tabObj #[]), (354, tabObj #[])], [], hdu, rfl, hS5, hIw, hul, doc, hne, (fun p hp => hst p (by simp only [List.mem_cons, List.not_mem_nil, or_false] at hp ⊢; rcases hp with e | e | e | e <;> simp [e])), hod, .nil, hDs, (fun p hp => Nat.ne_of_lt (hDlt p hp)), (fun p hp => hst p (by simp only [List.mem_cons, List.not_mem_nil, or_false] at hp ⊢; rcases hp with e | e <;> simp [e])), ⟨fun p hp => by simp only [List.mem_cons, List.not_mem_nil, or_false] at hp; exact .inr hp, by simp, by simp⟩⟩
  clear hk
  assumption
end Law
end Mine
end
/-! part Vno -/
section
theorem Mine.startVno : True := by
  w_top off
  exact trivial
open PySem PySem.W PyProof.Rows PySem.Calls PySem.Spec
set_option Elab.async false
set_option maxRecDepth 100000
namespace Mine
section Vno
open RX
theorem ktsD {h₀ g : Heap} {L : Addr} {m : Str → Option Value} {outer : List Env} {e : Env} (he : e.frame = some L) (F : Fr h₀ L g m) (D : KtsDicts (outer.filterMap (·.frame)) h₀) : KtsDicts ((e :: outer).filterMap (·.frame)) g := by
  intro b hb
  rw [List.filterMap_cons, he] at hb
  rcases List.mem_cons.mp hb with rfl | hb
  · obtain ⟨o, es, ep, h1, h2, _⟩ := F.ns
    exact ⟨o, es, ep, h1, h2⟩
  · obtain ⟨o, es, n, h1, h2⟩ := D b hb
    exact ⟨o, es, n, F.keep _ _ h1, h2⟩
section
variable {prog : Program} {w : World} {A : Around} {E : Value → Shared → Prop} {s : Shared} {h₀ : Heap} {L : Addr} {m : Str → Option Value} {news : List (Addr × Obj)} {Q : Value → Shared → Prop}
theorem full_no_k {p ct : Addr} {code : Array Nat} {x : Str} {t : Tok} {k : Nat} (I : IsPat s.heap p ct code) (hx : x.length ≤ 4000) (hk : k < 2 ^ 64)
    (ho : ((Sre.forMatch code x.cps 0 0 x.cps.size true false).runFor (4 * (k + 1))).outcome = some .failed)
    (h : Q .none s) : wpAny (model prog w) A (call (.builtin "re.Pattern.fullmatch") [.ref p, .str x t]) Q E s :=
  call_full_no I (by have : x.cps.size = x.length := rfl; omega) hk ho h
end
end Vno
end Mine
end
/-! part Exf -/
section
theorem Mine.startExf : True := by
  w_top off
  exact trivial
open PySem PySem.W PyProof.Rows PySem.Calls PySem.Spec
set_option Elab.async false
set_option maxRecDepth 100000
namespace Mine
/-! a ValueError on its way, with what stands behind it -/
/-- its object: arguments t, what stands behind it cx, its trace tb -/
def ExO (h : Heap) (e t : Addr) (cx tb : Value) : Prop := ∃ oe vs, h.get? e = some oe ∧ oe.cls = .type "ValueError" ∧ oe.data = .fields vs ∧ vs[0]? = some (.ref t) ∧ vs[2]? = some cx ∧ vs[1]? = some tb
/-- with a trace whose mark is fl -/
def Fl (B : Heap) (e t : Addr) (cx fl : Value) (h : Heap) : Prop := ∃ T oT ts, ExO h e t cx (.ref T) ∧ B.get? T = none ∧ T ≠ e ∧ h.get? T = some oT ∧ oT.data = .fields ts ∧ ts[3]? = some fl
structure Stay (B : Heap) (l : List Env) (h h' : Heap) : Prop where
  base : B.StaysIn h'
  frames : h'.FunFrames B l
  slots : h.UpToSlots h'
theorem Stay.trans {B : Heap} {l : List Env} {h h1 h2 : Heap} (x : Stay B l h h1) (y : Stay B l h1 h2) : Stay B l h h2 := ⟨y.base, y.frames, x.slots.trans y.slots⟩
section
variable {M : Model} {A : Around} {E : Value → Shared → Prop} {s : Shared} {B : Heap} {env : Env} {outer l : List Env} {L e t : Addr} {cx fl : Value} {Q : Unit → Shared → Prop}
theorem entry_x {oe : Obj} {vs : Array Value} {head : Value} {hadNext : Bool}
    (hfr : A.frames = some (env :: outer)) (hl : s.heap.FunFrames B (env :: outer)) (hf : env.frame = some L) (he : s.heap.get? e = some oe) (hkb : B.StaysIn s.heap) (hen : B.get? e = none)
    (hc : oe.cls = .type "ValueError") (hd : oe.data = .fields vs) (h0 : vs[0]? = some (.ref t)) (h2 : vs[2]? = some cx)
    (h : ∀ h', Fl B e t cx (rawInt L) h' → Stay B (env :: outer) s.heap h' → Q () { s with heap := h' }) :
    wpAny M A (do let a ← frameOf env; let pl ← entryPlaceOf L hadNext; let b ← EntryCells.newEntry head a .none (rawInt L) .none pl; setField (.ref e) 1 b) Q E s := by
  have hsz : 2 < vs.size := (Array.getElem?_eq_some_iff.mp h2).1
  have notFrame : e ∉ (env :: outer).filterMap (·.frame) := fun hm => by
    obtain ⟨_, o, ho, hnf⟩ := hl.mem hm
    rw [he] at ho; cases ho; exact hnf vs hd
  refine wpAny_bind (wpAny_frameOf_fun hfr hl hf fun h₁ hs₁ => ?_)
  refine wpAny_bind (wpAny_entryPlaceOf fun pl hpl => ?_)
  unfold EntryCells.newEntry newFields
  refine wpAny_bind (wpAny_newObj_type ?_ (hpl.sizeOk5 _ _ _ _ _))
  generalize hob : ({ cls := .type "traceback", dict := none, data := .fields ([head, .ref L, .none, rawInt L, .none] ++ (if pl.isEmpty then List.replicate 6 Value.none else pl)).toArray } : Obj) = ob
  have obd : ∃ ts, ob.data = .fields ts ∧ ts[3]? = some (rawInt L) := by rw [← hob]; exact ⟨_, rfl, by simp⟩
  have he₁ : h₁.get? e = some oe := (hs₁.2.1 e notFrame).trans he
  have kb₁ : B.StaysIn h₁ := fun b o q => (hs₁.2.1 b fun hm => by rw [(hl.mem hm).1] at q; cases q).trans (hkb b o q)
  have he₂ := Heap.get?_push_of_some (h := h₁) ob he₁
  refine wpAny_setField he₂ hd (by omega) (h _ ?_ ?_)
  · have hne : h₁.objs.size ≠ e := Nat.ne_of_gt (Heap.lt_size he₁)
    have hd₃ := Obj.data_mapFields hd (·.setIfInBounds 1 (Value.ref h₁.objs.size))
    obtain ⟨ts, e1, e2⟩ := obd
    refine ⟨h₁.objs.size, ob, ts, ⟨_, _, Heap.get?_update_self (Obj.mapFields (·.setIfInBounds 1 (Value.ref h₁.objs.size))) he₂ (Obj.isFreed_of_fields hd₃), (Obj.cls_mapFields _ _).trans hc, hd₃, ?_, ?_, ?_⟩, kb₁.fresh, hne, ?_, e1, e2⟩
    · rw [Array.getElem?_setIfInBounds_ne (by decide)]; exact h0
    · rw [Array.getElem?_setIfInBounds_ne (by decide)]; exact h2
    · show (vs.setIfInBounds 1 (Value.ref h₁.objs.size))[1]? = _
      simp [show 1 < vs.size by omega]
    · rw [Heap.get?_update_other _ _ (Ne.symm hne)]
      exact Heap.get?_push_size h₁ (by rw [← hob]; rfl)
  · have keep : ∀ b o, b ≠ e → h₁.get? b = some o → ((h₁.push ob).update e (Obj.mapFields (·.setIfInBounds 1 (Value.ref h₁.objs.size)))).get? b = some o := fun b o hb q => by
      rw [Heap.get?_update_other _ _ (Ne.symm hb)]
      exact Heap.get?_push_of_some _ q
    have other : ∀ b o, s.heap.get? b = some o → (∀ vs, o.data ≠ .fields vs) → b ≠ e := fun b o q hn z => by
      rw [z, he] at q; cases q; exact hn vs hd
    refine ⟨fun b o q => keep b o (fun z => by rw [z, hen] at q; cases q) (kb₁ b o q), hl.of_keeps fun b o q hn => ?_, fun b o q hn => ?_⟩
    · obtain ⟨sl, z⟩ := hs₁.2.2 b o q
      exact ⟨_, keep b _ (other b o q hn) z, rfl⟩
    · obtain ⟨sl, z⟩ := hs₁.2.2 b o q
      exact ⟨sl, keep b _ (other b o q hn) z⟩
/-- the first note -/
theorem note1 (hfr : A.frames = some (env :: outer)) (hl : s.heap.FunFrames B (env :: outer)) (hf : env.frame = some L) (hkb : B.StaysIn s.heap) (hen : B.get? e = none) (x : ExO s.heap e t cx .none)
    (h : ∀ h', Fl B e t cx (rawInt L) h' → Stay B (env :: outer) s.heap h' → Q () { s with heap := h' }) : wpAny M A (noteFrame (.ref e) env) Q E s := by
  obtain ⟨oe, vs, he, hc, hd, h0, h2, h1⟩ := x
  unfold noteFrame
  simp only [hf]
  refine wpAny_bind (wpAny_field he hd h1 ?_)
  rw [if_neg (by decide)]
  exact entry_x hfr hl hf he hkb hen hc hd h0 h2 h
/-- a field of the trace is set -/
theorem mark_x {v : Value} {T : Addr} {oT : Obj} {ts : Array Value} (x : ExO s.heap e t cx (.ref T)) (hT0 : B.get? T = none) (hTe : T ≠ e) (hT : s.heap.get? T = some oT) (hdT : oT.data = .fields ts) (h3 : 3 < ts.size) (hkb : B.StaysIn s.heap) (hl : s.heap.FunFrames B l)
    (h : ∀ h', Fl B e t cx v h' → Stay B l s.heap h' → ExO h' e t cx (.ref T) → (∀ b, b ≠ T → h'.get? b = s.heap.get? b) → Q () { s with heap := h' }) : wpAny M A (setField (.ref T) 3 v) Q E s := by
  refine wpAny_setField hT hdT h3 ?_
  have other : ∀ b, b ≠ T → (s.heap.update T (Obj.mapFields (·.setIfInBounds 3 v))).get? b = s.heap.get? b := fun b hb => Heap.get?_update_other _ _ (Ne.symm hb)
  have noRec : ∀ b o, s.heap.get? b = some o → (∀ vs, o.data ≠ .fields vs) → b ≠ T := fun b o q hn z => by
    rw [z, hT] at q; cases q; exact hn ts hdT
  have hd₃ := Obj.data_mapFields hdT (·.setIfInBounds 3 v)
  have x' : ExO (s.heap.update T (Obj.mapFields (·.setIfInBounds 3 v))) e t cx (.ref T) := by
    obtain ⟨oe, vs, he, r⟩ := x
    exact ⟨oe, vs, (other e (Ne.symm hTe)).trans he, r⟩
  refine h _ ⟨T, _, _, x', hT0, hTe, Heap.get?_update_self _ hT (Obj.isFreed_of_fields hd₃), hd₃, by simp [h3]⟩ ⟨fun b o q => (other b fun z => by rw [z, hT0] at q; cases q).trans (hkb b o q), hl.of_keeps fun b o q hn => ⟨o, (other b (noRec b o q hn)).trans q, rfl⟩, fun b o q hn => ⟨o.slots, (other b (noRec b o q hn)).trans q⟩⟩ x' other
/-- a note in the next frame -/
theorem note2 (hfr : A.frames = some (env :: outer)) (hl : s.heap.FunFrames B (env :: outer)) (hf : env.frame = some L) (hkb : B.StaysIn s.heap) (hen : B.get? e = none) (x : Fl B e t cx .none s.heap)
    (h : ∀ h', Fl B e t cx (rawInt L) h' → Stay B (env :: outer) s.heap h' → Q () { s with heap := h' }) : wpAny M A (noteFrame (.ref e) env) Q E s := by
  obtain ⟨T, oT, ts, x, hT0, hTe, hT, hdT, h3⟩ := x
  have x' := x
  obtain ⟨oe, vs, he, hc, hd, h0, h2, h1⟩ := x'
  unfold noteFrame
  simp only [hf]
  refine wpAny_bind (wpAny_field he hd h1 ?_)
  rw [if_pos (show (Value.ref T != Value.none) = true from by simp)]
  refine wpAny_bind (wpAny_field hT hdT h3 ?_)
  rw [if_neg (show ¬ ((Value.none == rawInt L) = true) from by simp [rawInt])]
  refine wpAny_bind (mark_x (l := env :: outer) x hT0 hTe hT hdT (Array.getElem?_eq_some_iff.mp h3).1 hkb hl fun h1 f1 st1 ex1 o1 => ?_)
  obtain ⟨oe1, vs1, he1, hc1, hd1, h01, h21, _⟩ := ex1
  exact entry_x (s := { s with heap := h1 }) hfr st1.frames hf he1 st1.base hen hc1 hd1 h01 h21 fun h' f' st' => h h' f' (st1.trans st')
/-- a note in the frame that is noted already -/
theorem note3 (hf : env.frame = some L) (x : Fl B e t cx (rawInt L) s.heap) (h : Q () s) : wpAny M A (noteFrame (.ref e) env) Q E s := by
  obtain ⟨T, oT, ts, ⟨oe, vs, he, hc, hd, h0, h2, h1⟩, hT0, hTe, hT, hdT, h3⟩ := x
  unfold noteFrame
  simp only [hf]
  refine wpAny_bind (wpAny_field he hd h1 ?_)
  rw [if_pos (show (Value.ref T != Value.none) = true from by simp)]
  refine wpAny_bind (wpAny_field hT hdT h3 ?_)
  rw [if_pos (by simp)]
  exact wpAny_pure h
theorem flight (fr : Option Addr) (hl : s.heap.FunFrames B l) (hkb : B.StaysIn s.heap) (x : Fl B e t cx fl s.heap)
    (h : ∀ h', Fl B e t cx (fr.elim .none fun f => rawInt f) h' → Stay B l s.heap h' → Q () { s with heap := h' }) : wpAny M A (setFlight (.ref e) fr) Q E s := by
  obtain ⟨T, oT, ts, x, hT0, hTe, hT, hdT, h3⟩ := x
  have x' := x
  obtain ⟨oe, vs, he, hc, hd, h0, h2, h1⟩ := x'
  unfold setFlight
  refine wpAny_bind (wpAny_field he hd h1 ?_)
  rw [if_pos (show (Value.ref T != Value.none) = true from by simp)]
  exact mark_x (l := l) x hT0 hTe hT hdT (Array.getElem?_eq_some_iff.mp h3).1 hkb hl fun h1 f1 st1 _ _ => h h1 f1 st1
end
end Mine
end
/-! part Exg -/
section
theorem Mine.startExg : True := by
  w_top off
  exact trivial
open PySem PySem.W PyProof.Rows PySem.Calls PySem.Spec
set_option Elab.async false
set_option maxRecDepth 100000
namespace Mine
/-- a ValueError that flies through these frames -/
def RaisedX (base G : Heap) (l : List Env) (e t : Addr) (cx : Value) (vs : List Value) (news : List (Addr × Obj)) (h : Heap) : Prop :=
  ∃ B, base.StaysIn B ∧ (∀ b o, G.get? b = some o → b ∉ l.filterMap (·.frame) → B.get? b = some o) ∧ (∀ q ∈ news, B.get? q.1 = some q.2 ∧ G.get? q.1 = none ∧ base.get? q.1 = none) ∧ B.StaysIn h ∧ B.get? e = none ∧ h.FunFrames B l ∧ Fl B e t cx .none h ∧ B.get? t = none ∧ h.TupAt t vs
theorem mem_fr {env : Env} {outer : List Env} {L b : Addr} (hf : env.frame = some L) (hm : b ∈ (env :: outer).filterMap (·.frame)) : b = L ∨ b ∈ outer.filterMap (·.frame) := by
  rw [List.filterMap_cons, hf] at hm
  rcases List.mem_cons.mp hm with h | h
  · exact .inl h
  · exact .inr h
section
variable {M : Model} {A : Around} {E : Value → Shared → Prop} {s : Shared} {base g h : Heap} {env : Env} {outer : List Env} {L e t : Addr} {cx : Value} {m : Str → Option Value} {news : List (Addr × Obj)} {Q : Unit → Shared → Prop} {vs : List Value}
theorem push_x (K : Below A base outer g) (F : Fr g L h m) (hf : env.frame = some L) (hk : env.scope.kind = .function) : h.FunFrames base (env :: outer) ∧ base.StaysIn h := by
  have hnew : base.get? L = none := by
    cases q : base.get? L with
    | none => rfl
    | some o => exact absurd (Nat.lt_of_lt_of_le (Heap.lt_size (K.stays L o q)) F.above) (Nat.lt_irrefl _)
  obtain ⟨o, es, ep, ho, hd, _⟩ := F.ns
  exact ⟨⟨by rw [hk]; decide, ⟨L, o, hf, hnew, ho, fun vs q => by rw [hd] at q; cases q⟩, K.frames.of_keeps fun b o e _ => ⟨o, F.keep b o e, rfl⟩⟩, fun b o e => F.keep b o (K.stays b o e)⟩
/-- the ground of a flight: all that stands, the frames hidden -/
theorem ground_x (K : Below A base outer g) (F : Fr g L h m) (N : News g L h news) (hf : env.frame = some L) (hk : env.scope.kind = .function) :
    ∃ B, base.StaysIn B ∧ (∀ b o, g.get? b = some o → b ∉ outer.filterMap (·.frame) → B.get? b = some o) ∧ (∀ q ∈ news, B.get? q.1 = some q.2 ∧ g.get? q.1 = none ∧ base.get? q.1 = none) ∧ B.StaysIn h ∧ h.FunFrames B (env :: outer) ∧ (∀ b, h.get? b = none → B.get? b = none) ∧ B.get? L = none := by
  obtain ⟨hfr, hst⟩ := push_x (env := env) K F hf hk
  have hin : ∀ e ∈ (env :: outer), ∀ b, e.frame = some b → b ∈ (env :: outer).filterMap (·.frame) := fun e he b hb => List.mem_filterMap.mpr ⟨e, he, hb⟩
  have hL : L ∈ (env :: outer).filterMap (·.frame) := hin env (.head _) L hf
  refine ⟨hideAll h ((env :: outer).filterMap (·.frame)), fun b o q => hideAll_get _ (hst b o q) fun hm => ?_, fun b o q nm => hideAll_get _ (F.keep b o q) fun hm => ?_, fun q hq => ⟨hideAll_get _ (N q hq).1 fun hm => ?_, (N q hq).2.2, fresh_of_stays K.stays (N q hq).2.2⟩, fun b o q => of_hideAll _ q, funFrames_hide hfr hin, fun b q => ?_, hideAll_none _ hL⟩
  · rw [(hfr.mem hm).1] at q; cases q
  · rcases mem_fr hf hm with z | z
    · rw [z, kts_self F] at q; cases q
    · exact nm z
  · rcases mem_fr hf hm with z | z
    · exact (N q hq).2.1 z
    · obtain ⟨o, ho, _⟩ := (K.frames.mem z).2
      rw [(N q hq).2.2] at ho; cases ho
  · cases z : (hideAll h ((env :: outer).filterMap (·.frame))).get? b with
    | none => rfl
    | some o => rw [of_hideAll _ z] at q; cases q
/-- a fresh ValueError leaves the frame it was raised in -/
theorem leave_newX (K : Below A base outer g) (F : Fr g L h m) (N : News g L h news) (hx : Heap.MadeExc h s.heap e "ValueError" vs) (hf : env.frame = some L) (hk : env.scope.kind = .function)
    (hQ : ∀ h' t, RaisedX base g outer e t .none vs news h' → g.UpToSlots h' → Q () { s with heap := h' }) : wpAny M (A.deeper env) (leaving env (.ref e)) Q E s := by
  obtain ⟨B, b1, b2, b3, b4, b5, b6, _⟩ := ground_x (env := env) K F N hf hk
  obtain ⟨t, ht, htn, htt⟩ := hx.there
  have hfr : (A.deeper env).frames = some (env :: outer) := Around.frames_deeper K.stack
  have f5 : s.heap.FunFrames B (env :: outer) := b5.of_keeps fun b o q _ => ⟨o, hx.keeps b o q, rfl⟩
  unfold leaving
  refine wpAny_bind (note1 (B := B) (t := t) (cx := .none) hfr f5 hf (fun b o q => hx.keeps b o (b4 b o q)) (b6 e hx.new) ⟨_, _, ht, rfl, rfl, rfl, rfl, rfl⟩ fun h1 f1 st1 => ?_)
  refine flight (s := { s with heap := h1 }) (l := env :: outer) none st1.frames st1.base f1 fun h2 f2 st2 => ?_
  have st := st1.trans st2
  refine hQ h2 t ⟨B, b1, b2, b3, st.base, b6 e hx.new, st.frames.2.2, f2, b6 t htn, ?_⟩ (((Heap.UpToSlots.of_keeps F.keep).trans (Heap.UpToSlots.of_keeps hx.keeps)).trans st.slots)
  have T0 : s.heap.TupAt t vs := ⟨_, _, htt, rfl, rfl⟩
  exact T0.of_slots st.slots
/-- it goes through a frame -/
theorem leave_onX {g₂ : Heap} (K : Below A base outer g) (F : Fr g L g₂ m) (R : RaisedX base g₂ (env :: outer) e t cx vs news s.heap) (hsm : g₂.UpToSlots s.heap) (hf : env.frame = some L)
    (hQ : ∀ h', RaisedX base g outer e t cx vs news h' → g.UpToSlots h' → Q () { s with heap := h' }) : wpAny M (A.deeper env) (leaving env (.ref e)) Q E s := by
  obtain ⟨B, b1, b2, b3, b4, b5, b6, b7, b8, b9⟩ := R
  have hfr : (A.deeper env).frames = some (env :: outer) := Around.frames_deeper K.stack
  unfold leaving
  refine wpAny_bind (note2 (B := B) hfr b6 hf b4 b5 b7 fun h1 f1 st1 => ?_)
  refine flight (s := { s with heap := h1 }) (l := env :: outer) none st1.frames st1.base f1 fun h2 f2 st2 => ?_
  have st := st1.trans st2
  refine hQ h2 ⟨B, b1, fun b o q nm => b2 b o (F.keep b o q) fun hm => ?_, fun q hq => ⟨(b3 q hq).1, kts_none F.keep (b3 q hq).2.1, (b3 q hq).2.2⟩, st.base, b5, st.frames.2.2, f2, b8, b9.of_slots st.slots⟩ ((Heap.UpToSlots.of_keeps F.keep).trans (hsm.trans st.slots))
  rcases mem_fr hf hm with z | z
  · rw [z, kts_self F] at q; cases q
  · exact nm z
end
end Mine
end
/-! part Vnb -/
section
theorem Mine.startVnb : True := by
  w_top off
  exact trivial
local macro_rules | `(tactic| walk_at "pad0") => `(tactic| skip)
open PySem PySem.W PyProof.Rows PySem.Calls PySem.Spec
set_option Elab.async false
set_option maxRecDepth 100000
namespace Mine
section Vno
open RX
local macro_rules | `(tactic| walk_at "call builtin:re.Pattern.fullmatch") => `(tactic| (k_here; k_dflt (refine' full_no_k (pat_name ?X) ?a ?b ?c ?_; (case X => exact Frag.In.keeps (by k_asm) (Fr.keep (by k_asm))); (case a => omega); (case b => assumption); (case c => assumption); k_whole)))
local macro_rules | `(tactic| k_room) => `(tactic| ktr_room)
local macro_rules | `(tactic| k_units) => `(tactic| ktr_units)
local macro_rules | `(tactic| k_all) => `(tactic| assumption)
local macro_rules | `(tactic| walk_at "getMethod ref") => `(tactic| (k_here; (with_reducible show wpAny _ _ (getMethod (Value.ref 196) _ _) _ _ _); k_dflt (refine' get_pat (pat_name ?X) slot_full type_full ?_; (case X => exact Frag.In.keeps (by k_asm) (Fr.keep (by k_asm))); k_whole)))
local macro_rules | `(tactic| walk_at "leaving ref") => `(tactic| refine TEnd.out ?_)
set_option pp.deepTerms false
set_option pp.maxSteps 3000
set_option maxHeartbeats 4000000 in
theorem vtok_bad {w : World} {mean : ExcName → Option Value} {mg mb : Str → Option Value}
    {dp un : Nat} {gd : Option (List Code)} {cn : Str} {nms : List (Str × NameKind)} {ig ic : Bool} {mo : List (Str × Const)} {a : Addr} {ccd : Value} {cl : List (Str × Addr)} {outer : List Env} {A₀ : Around} {base h₀ : Heap} {L : Addr} {m : Str → Option Value} {s : Shared}
    {Q E : Value → Shared → Prop} {news : List (Addr × Obj)} {y : Str} {t : Tok}
    (B : Below A₀ base outer h₀) (F : Fr h₀ L s.heap m) (X : (K0 w.params).In h₀) (N : News h₀ L s.heap news) (T : Top hd.view_39 loos mean mg mb h₀)
    (hx : y.length ≤ 1000) (hy : NameOk y false) (hd1 : dp + 20 < recursionLimit) (hu1 : un + 400 < cLine)
    (hE : ∀ g' e t' h' tk', Fr h₀ L g' m → RaisedX base g' (envX cn { kind := .function, names := nms, isGenerator := ig, isCoroutine := ic, more := mo } L a ccd cl :: outer) e t' .none [.str y t] news h' → g'.UpToSlots h' → E (.ref e) { s with heap := h', toks := tk' }) :
    wpAny (model PySem.Challenge.rw_bl0007_01.row.prog w) (cal dp un gd cn nms ig ic mo L a ccd cl outer) (call (.ref 203) [.str y t]) Q E s := by
  revert X; k_fill; intro X
  refine wpAny_call ?_
  k_dflt (refine' code_def (binds := [(Str.ofString "name", .str y t)]) ?k1 ?k2 ?k3 ?k4 ?k5 ?kA ?kF ?kK ?k6 ?k7 ?k8 ?k9 ?kB ?_ ?c2 ?c3 ?c4 ?c5; (case kA => exact rfl); (case kF => exact rfl); (case kK => exact rfl); (case k1 => k_asm); (case k2 => k_asm); (case k3 => k_asm); (case k4 => k_asm); (case k5 => k_asm); (case k6 => k_is); (case k7 => k_is); (case k8 => k_room); (case k9 => exact BindsTo.of_eq rfl); (case c5 => decide); (case kB => exact locs rfl); (case c2 => exact rfl); (case c3 => exact rfl); (case c4 => exact rfl); k_whole; intro g' L' h' FG' F' N' B' X' T'; (try dsimp only); (try k_lift B'); (try k_fold))
  obtain ⟨k, hk, ho⟩ := hy
  replace ho := (show ((Sre.forMatch nameCode y.cps 0 0 y.cps.size true false).runFor (4 * (k + 1))).outcome = some .failed from ho)
  k_steps
  refine TEnd.mk ?_
  refine leave_newX (by assumption) (by assumption) (by assumption) (by assumption) rfl rfl ?_
  intro h9 t9 R9 U9
  exact hE _ _ _ _ _ FG' R9 U9
end Vno
end Mine
end
/-! part Exh -/
section
theorem Mine.startExh : True := by
  w_top off
  exact trivial
open PySem PySem.W PyProof.Rows PySem.Calls PySem.Spec
set_option Elab.async false
set_option maxRecDepth 100000
namespace Mine
section
variable {A₀ : Around} {base g G B h₅ h : Heap} {outer : List Env} {env : Env} {L e t : Addr} {m : Str → Option Value} {cx : Value} {vs : List Value} {news : List (Addr × Obj)}
theorem turn_x (K : Below A₀ base outer g) (F : Fr g L G m) (hf : env.frame = some L) (hBG : ∀ b o, G.get? b = some o → b ∉ (env :: outer).filterMap (·.frame) → B.get? b = some o) (hBh : B.StaysIn h₅) (hsm : G.UpToSlots h₅) :
    ∃ g', KtsTurn (outer.filterMap (·.frame)) g g' ∧ Fr g' L h₅ m ∧ Below A₀ base outer g' := by
  have off : ∀ b o, g.get? b = some o → b ∉ outer.filterMap (·.frame) → b ∉ (env :: outer).filterMap (·.frame) := fun b o q nm hm => by
    rcases mem_fr hf hm with z | z
    · rw [z, kts_self F] at q; cases q
    · exact nm z
  obtain ⟨T, S⟩ := kts_turn_at (h := h₅) (fs := outer.filterMap (·.frame)) (g := g)
    (fun b hb => let ⟨_, o, ho, _⟩ := K.frames.mem hb; ⟨o, ho⟩)
    (fun b o q nm => hBh b o (hBG b o (F.keep b o q) (off b o q nm)))
    (fun b o q hm => by
      obtain ⟨_, o', ho', hd⟩ := K.frames.mem hm
      rw [q] at ho'; cases ho'
      exact hsm b o (F.keep b o q) hd)
  refine ⟨_, T, ⟨hsm.ns F.ns, S, by rw [T.size]; exact F.above⟩, ⟨K.stack, fun b o q => T.other b o (K.stays b o q) (fun hm => by
    rw [(K.frames.mem hm).1] at q; cases q), K.frames.of_keeps fun b o q _ => ?_⟩⟩
  obtain ⟨sl, hs⟩ := T.up q
  exact ⟨_, hs, rfl⟩
/-- what is new to B is new to the ground -/
theorem new_x (K : Below A₀ base outer g) (F : Fr g L G m) (hf : env.frame = some L) (D : KtsDicts (outer.filterMap (·.frame)) g) (hsm : G.UpToSlots h) (hBG : ∀ b o, G.get? b = some o → b ∉ (env :: outer).filterMap (·.frame) → B.get? b = some o) {b : Addr} {ob : Obj} (hb : B.get? b = none) (ho : h.get? b = some ob) (hnd : ∀ es n, ob.data ≠ .dict es n) : g.get? b = none := by
  cases q : g.get? b with
  | none => rfl
  | some o =>
    by_cases hm : b ∈ outer.filterMap (·.frame)
    · obtain ⟨o', es, n, ho', hd⟩ := D b hm
      rw [q] at ho'; cases ho'
      obtain ⟨sl, hs⟩ := hsm b o (F.keep b o q) (fun vs z => by rw [hd] at z; cases z)
      rw [ho] at hs; cases hs
      exact absurd hd (hnd es n)
    · have := hBG b o (F.keep b o q) (fun hm' => by
        rcases mem_fr hf hm' with z | z
        · rw [z, kts_self F] at q; cases q
        · exact hm z)
      rw [hb] at this; cases this
/-- the same flight over the ground as it was -/
theorem RaisedX.back {l : List Env} {g' : Heap} (R : RaisedX base g' l e t cx vs news h) (T : KtsTurn (l.filterMap (·.frame)) g g') : RaisedX base g l e t cx vs news h := by
  obtain ⟨B, b1, b2, b3, r⟩ := R
  refine ⟨B, b1, fun b o q nm => b2 b o (T.other b o q nm) nm, fun q hq => ⟨(b3 q hq).1, ?_, (b3 q hq).2.2⟩, r⟩
  cases z : g.get? q.1 with
  | none => rfl
  | some o => obtain ⟨sl, hs⟩ := T.up z; rw [(b3 q hq).2.1] at hs; cases hs
theorem slots_turn {fs : List Addr} {g' : Heap} (T : KtsTurn fs g g') : g.UpToSlots g' := fun b o q _ => T.up q
end
section
variable {prog : Program} {w : World} {A₀ : Around} {E : Value → Shared → Prop} {s : Shared} {base g G : Heap} {outer : List Env} {env : Env} {L e t : Addr} {m : Str → Option Value} {cx : Value} {vs : List Value} {n : Str} {b₀ : Stmt} {suite : List Stmt} {pos np : Pos} {rest : List ExceptHandler} {Q : Flow → Shared → Prop} {news : List (Addr × Obj)} {KF : Frag}
  {p : Program} {loose : List Str} {mean : ExcName → Option Value} {mg mb : Str → Option Value}
/-- the caught object, in the ledger's words -/
structure Caught (oe ot : Obj) (t : Addr) (cx : Value) (vs : List Value) : Prop where
  exc : ∃ ws, oe.cls = .type "ValueError" ∧ oe.data = .fields ws ∧ ws[0]? = some (.ref t) ∧ ws[2]? = some cx
  tup : ∃ n, ot.cls = .type "tuple" ∧ ot.data = .seq vs.toArray n
theorem caught_asX (R : RaisedX base G (env :: outer) e t cx vs news s.heap) (F : Fr g L G m) (K : Below A₀ base outer g) (hsm : G.UpToSlots s.heap) (XB : KF.In base) (TB : Top p loose mean mg mb base) (D : KtsDicts (outer.filterMap (·.frame)) g)
    (hf : env.frame = some L) (hlo : env.locals = L) (hk : env.scope.kind = .function) (hg : env.globals = mainGlobals) (hbn : env.builtins = builtinsNs) (hx : env.kindOf (Str.ofString "ValueError") = some .globalImplicit) (hn : env.kindOf n = some .local)
    (ex : nsIn KF mainGlobals (Str.ofString "ValueError") = some none)
    (k : ∀ h' g' oe ot tk, KtsTurn (outer.filterMap (·.frame)) g g' → Fr g' L h' (fun y => if y = n then some (.ref e) else m y) → News g' L h' ((e, oe) :: (t, ot) :: news) → Caught oe ot t cx vs → Below A₀ base outer g' → KF.In g' → Top p loose mean mg mb g' → KtsDicts (outer.filterMap (·.frame)) g' →
      wpAny (model prog w) ((A₀.deeper env).mark (some (.ref e))) (execs (b₀ :: suite) env)
        (fun f s₄ => wpAny (model prog w) (A₀.deeper env) (do bindName env n .none; unbindBehindTheSuite env n pos) (fun _ s₅ => Q f s₅) E s₄)
        (AsSuiteRaised (model prog w) ((A₀.deeper env).mark (some (.ref e))) env n pos (notedBy (model prog w) ((A₀.deeper env).mark (some (.ref e))) env (cameBackBy (model prog w) (A₀.deeper env) env E)))
        { s with heap := h', toks := tk }) :
    wpAny (model prog w) (A₀.deeper env) (noteFrame (.ref e) env)
      (fun _ s₂ => wpAny (model prog w) (A₀.deeper env) (setFlight (.ref e) none) (fun _ s₃ =>
        wpAny (model prog w) (A₀.deeper env) (handleBy (.ref e) env (.ExceptHandler (some (.Name (Str.ofString "ValueError") np)) (some n) (b₀ :: suite) pos :: rest)) Q E s₃) E s₂) E s := by
  obtain ⟨B, b1, b2, b3, b4, b5, b6, b7, b8, b9⟩ := R
  have hfr : (A₀.deeper env).frames = some (env :: outer) := Around.frames_deeper K.stack
  have hL : B.get? L = none := (b6.mem (List.mem_filterMap.mpr ⟨env, .head _, hf⟩)).1
  refine note2 (B := B) hfr b6 hf b4 b5 b7 fun h1 f1 st1 => ?_
  refine flight (s := { s with heap := h1 }) (l := env :: outer) none st1.frames st1.base f1 fun h2 f2 st2 => ?_
  have st12 := st1.trans st2
  obtain ⟨g2, T2, F2, K2⟩ := turn_x (h₅ := h2) K F hf b2 st12.base (hsm.trans st12.slots)
  have X2 : KF.In g2 := XB.keeps K2.stays
  have P2 : TopRead p loose mg mb g2 := topRead_of (TB.keeps K2.stays)
  have ty : ({ s with heap := h2 } : Shared).TypeIs (.ref e) "ValueError" := by
    obtain ⟨T, oT, ts, ⟨oe, ws, he, hc, _⟩, _⟩ := f2
    exact ⟨oe, he, hc⟩
  refine wpAny_handleBy_builtin_as (X := "ValueError") (T := "ValueError") (b := true) PySem.F.isExc_ValueError PySem.F.notTuple_ValueError (by rw [isSubtype_type]; kernel_rfl) ?_
  refine Name_function_global hk hx (loadGlobal_builtin (by rw [hg]; exact P2.g.keeps F2.keep) (mg_none_of X2 P2.g ex) (by rw [hbn]; exact P2.b.keeps F2.keep) ((P2.builtins _ (by decide)).trans PyProof.Rows.Boot.«ValueError») ⟨rfl, ty, ?_⟩)
  refine flight (s := { s with heap := h2 }) (l := env :: outer) none st12.frames st12.base f2 fun h3 f3 st3 => ?_
  have st := st12.trans st3
  obtain ⟨g3, T3, F3, K3⟩ := turn_x (h₅ := h3) K F hf b2 st.base (hsm.trans st.slots)
  have D3 : KtsDicts (outer.filterMap (·.frame)) g3 := D.turn T3
  obtain ⟨T, oT, ts, ⟨oe, ws, he, hc, hd, h0, hcx, htb⟩, _⟩ := f3
  obtain ⟨ot, nt, hot, hotc, hotd⟩ := b9.of_slots st.slots
  have ne3 : g3.get? e = none := T3.none_ _ (new_x K F hf D (hsm.trans st.slots) b2 b5 he fun es n q => by rw [hd] at q; cases q)
  have nt3 : g3.get? t = none := T3.none_ _ (new_x K F hf D (hsm.trans st.slots) b2 b8 hot fun es n q => by rw [hotd] at q; cases q)
  have neL : e ≠ L := fun z => by
    obtain ⟨o, es, n, q, qd, _⟩ := F3.ns
    rw [← z, he] at q; cases q; rw [hd] at qd; cases qd
  have ntL : t ≠ L := fun z => by
    obtain ⟨o, es, n, q, qd, _⟩ := F3.ns
    rw [← z, hot] at q; cases q; rw [hotd] at qd; cases qd
  have N3 : News g3 L h3 ((e, oe) :: (t, ot) :: news) := fun q hq => by
    rcases List.mem_cons.mp hq with rfl | hq
    · exact ⟨he, neL, ne3⟩
    · rcases List.mem_cons.mp hq with rfl | hq
      · exact ⟨hot, ntL, nt3⟩
      · exact ⟨st.base _ _ (b3 q hq).1, (fun z => by have := (b3 q hq).1; rw [z, hL] at this; cases this), T3.none_ _ (kts_none F.keep (b3 q hq).2.1)⟩
  refine wpAny_storeName_local hn (by rw [hlo]; exact F3.ns) (fun h' hn' hs' => ?_) (by rw [hk]; rfl)
  rw [hlo] at hn' hs'
  exact k h' g3 oe ot _ T3 (F3.set hn' hs') (N3.set hs') ⟨⟨ws, hc, hd, h0, hcx⟩, ⟨nt, hotc, hotd⟩⟩ K3 (XB.keeps K3.stays) (TB.keeps K3.stays) D3
end
end Mine
end
/-! part Exi -/
section
theorem Mine.startExi : True := by
  w_top off
  exact trivial
open PySem PySem.W PyProof.Rows PySem.Calls PySem.Spec
set_option Elab.async false
set_option maxRecDepth 100000
namespace Mine
section
variable {prog : Program} {w : World} {A : Around} {E : Value → Shared → Prop} {s : Shared} {e t : Addr} {cx tb : Value}
theorem exo_type (x : ExO s.heap e t cx tb) : s.TypeIs (.ref e) "ValueError" := let ⟨oe, _, he, hc, _⟩ := x; ⟨oe, he, hc⟩
theorem exo_notType {Q : Bool → Shared → Prop} (x : ExO s.heap e t cx tb) (hq : Q false s) : wpAny (model prog w) A (isType (.ref e)) Q E s := by
  obtain ⟨oe, vs, he, hc, hd, _⟩ := x
  simp only [isType, loadHead]
  refine wpAny_bind (wpAny_loadPart he ?_)
  rw [hd]; exact wpAny_pure hq
theorem exo_from {msg : String} {Q : Value → Shared → Prop} (x : ExO s.heap e t cx tb) (hq : Q (.ref e) s) : wpAny (model prog w) A (excFromValue (.ref e) msg) Q E s := by
  unfold excFromValue isExcClass
  refine wpAny_bind (wpAny_bind (exo_notType x ?_))
  simp only [Bool.false_eq_true, if_false]
  refine wpAny_pure ?_
  simp only [Bool.false_eq_true, if_false]
  refine wpAny_bind (wpAny_isInstance (exo_type x) PySem.F.isExc_ValueError ?_)
  simp only [if_true]
  exact wpAny_pure hq
theorem exo_set {i : Nat} {v : Value} {Q : Unit → Shared → Prop} (x : ExO s.heap e t cx .none) (hi : i = 3 ∨ i = 4) (hz : ∀ oe vs, s.heap.get? e = some oe → oe.data = .fields vs → 4 < vs.size)
    (h : ∀ h', ExO h' e t cx .none → (∀ oe vs, h'.get? e = some oe → oe.data = .fields vs → 4 < vs.size) → (∀ b o, b ≠ e → s.heap.get? b = some o → h'.get? b = some o) → Q () { s with heap := h' }) : wpAny (model prog w) A (setField (.ref e) i v) Q E s := by
  obtain ⟨oe, vs, he, hc, hd, h0, h2, h1⟩ := x
  have hz' := hz oe vs he hd
  have hd3 := Obj.data_mapFields hd (·.setIfInBounds i v)
  refine wpAny_setField he hd (by omega) (h _ ⟨_, _, Heap.get?_update_self (Obj.mapFields (·.setIfInBounds i v)) he (Obj.isFreed_of_fields hd3), (Obj.cls_mapFields _ _).trans hc, hd3, ?_, ?_, ?_⟩ ?_ ?_)
  · rw [Array.getElem?_setIfInBounds_ne (by omega)]; exact h0
  · rw [Array.getElem?_setIfInBounds_ne (by omega)]; exact h2
  · rw [Array.getElem?_setIfInBounds_ne (by omega)]; exact h1
  · intro oe' vs' q qd
    rw [Heap.get?_update_self (Obj.mapFields (·.setIfInBounds i v)) he (Obj.isFreed_of_fields hd3)] at q
    cases q
    rw [hd3] at qd; cases qd
    simpa using hz'
  · intro b o hb q
    rw [Heap.get?_update_other _ _ (Ne.symm hb)]; exact q
/-- the chain behind: nothing, or one with nothing behind it -/
inductive Behind (h : Heap) (e1 : Addr) : Value → Prop
  | none : Behind h e1 .none
  | one (e0 t0 : Addr) (tb : Value) : e0 ≠ e1 → ExO h e0 t0 .none tb → Behind h e1 (.ref e0)
theorem entry_unchain : entryFor table "proto.unchain" = some Builtin.«proto.unchain» := entryFor_of_tree (by kernel_rfl)
theorem unchain_x {e2 e1 t1 : Addr} {tb1 : Value} {Q : Value → Shared → Prop} (x : ExO s.heap e1 t1 cx tb1) (bh : Behind s.heap e1 cx) (hn : ∀ e0 t0 tb, ExO s.heap e0 t0 .none tb → cx = .ref e0 → e0 ≠ e2) (hq : Q .none s) :
    wpAny (model prog w) A (runValue (.builtin "proto.unchain" ⟨[.ref e2, .ref e1, .ref e1, .bool false], []⟩)) Q E s := by
  obtain ⟨oe, vs, he, hc, hd, h0, h2, h1⟩ := x
  refine wpAny_runValue (codeAny_builtin entry_unchain ?_)
  unfold Builtin.«proto.unchain»
  refine wpAny_bind (wpAny_field he hd h2 ?_)
  cases bh with
  | none =>
    rw [if_pos (by decide)]
    exact wpAny_pure hq
  | one e0 t0 tb hne y =>
    have hne2 := hn e0 t0 tb y rfl
    obtain ⟨oe', vs', he', hc', hd', h0', h2', h1'⟩ := y
    rw [if_neg (by simp)]
    rw [if_neg (by simpa using hne2)]
    rw [if_neg (by simpa using hne)]
    dsimp only
    rw [if_neg (by decide)]
    refine wpAny_bind (wpAny_pure ?_)
    refine wpAny_pure ⟨Code.quiet_builtin _ (by decide +kernel), codeAny_builtin entry_unchain ?_⟩
    unfold Builtin.«proto.unchain»
    refine wpAny_bind (wpAny_field he' hd' h2' ?_)
    rw [if_pos (by decide)]
    exact wpAny_pure hq
/-- raise x from exc, behind it what is handled -/
theorem raise_from {env : Env} {e1 : Addr} {n : Str} {call : Expr} {np pos : Pos} {Q : Flow → Shared → Prop}
    (hh : A.handled = some (.ref e1)) (hk : env.scope.kind = .function) (hn : env.kindOf n = some .local) (hdb : (n == ("__debug__" : Str)) = false)
    (hcall : wpAny (model prog w) A (eval call env) (fun v s₁ => ∃ e2 t2 h0 cx tb m vs t1, v = .ref e2 ∧ Heap.MadeExc h0 s₁.heap e2 "ValueError" vs ∧ h0.Ns env.locals m ∧ m n = some (.ref e1) ∧ ExO h0 e1 t1 cx tb ∧ Behind h0 e1 cx ∧ s₁.heap.get? e2 = some { cls := .type "ValueError", data := .fields #[.ref t2, .none, .none, .none, .bool false, .none] } ∧
      ∀ h', ExO h' e2 t2 (.ref e1) .none → (∀ b o, b ≠ e2 → s₁.heap.get? b = some o → h'.get? b = some o) → E (.ref e2) { s₁ with heap := h' }) E s) :
    wpAny (model prog w) A (exec (.Raise (some call) (some (.Name n np)) pos) env) Q E s := by
  show wpAny (model prog w) A (do standAt pos; raiseStmt env (some (do let v ← eval call env; standAt pos; pure v)) (some (do let v ← eval (.Name n np) env; standAt pos; pure v))) Q E s
  refine wpAny_bind (wpAny_standAt ?_)
  unfold raiseStmt
  dsimp only
  refine wpAny_bind (wpAny_bind (wpAny_mono hcall (fun v s₁ h₁ => wpAny_bind (wpAny_standAt (wpAny_pure ?_))) fun _ _ x => x))
  obtain ⟨e2, t2, h0, cx, tb, m, vs, t1, rfl, hm, hns, hmn, x1, bh, he2, hE⟩ := h₁
  have k0 : ∀ b o, h0.get? b = some o → s₁.heap.get? b = some o := hm.keeps
  have y1 : ExO s₁.heap e1 t1 cx tb := let ⟨oe, ws, a, r⟩ := x1; ⟨oe, ws, k0 _ _ a, r⟩
  have ne12 : e1 ≠ e2 := fun z => by
    obtain ⟨oe, ws, a, _⟩ := x1
    rw [z, hm.new] at a; cases a
  refine wpAny_bind (wpAny_holding (wpAny_bind (wpAny_Name (wpAny_loadName_local hk hn (hns.keeps k0) hmn (wpAny_bind (wpAny_standAt (wpAny_pure ?_)))) hdb)))
  refine wpAny_bind (wpAny_pure ?_)
  dsimp only
  have x2 : ExO s₁.heap e2 t2 .none .none := ⟨_, _, he2, rfl, rfl, rfl, rfl, rfl⟩
  refine wpAny_bind (wpAny_holding (exo_from x2 ?_))
  rw [if_neg (by simp)]
  refine wpAny_bind (wpAny_holding (exo_from y1 ?_))
  refine wpAny_bind (exo_set x2 (.inl rfl) (fun oe ws q qd => by rw [he2] at q; cases q; cases qd; exact Nat.lt_of_sub_ne_zero (by simp)) fun h3 x3 z3 k3 => ?_)
  refine wpAny_bind (exo_set (s := { s₁ with heap := h3 }) x3 (.inr rfl) z3 fun h4 x4 z4 k4 => ?_)
  have k14 : ∀ b o, b ≠ e2 → s₁.heap.get? b = some o → h4.get? b = some o := fun b o hb q => k4 b o hb (k3 b o hb q)
  refine wpAny_bind (exo_notType (s := { s₁ with heap := h4 }) x4 ?_)
  simp only [Bool.false_eq_true, if_false]
  unfold raisedInstance
  refine wpAny_bind (wpAny_bind (wpAny_typeOf (exo_type (s := { s₁ with heap := h4 }) x4) (wpAny_bind (m := typeOf (.type "ValueError")) (wpAny_pure ?_))))
  rw [if_pos (by decide +kernel)]
  refine wpAny_pure ?_
  unfold setFlight raiseNew
  obtain ⟨oe4, ws4, he4, hc4, hd4, h04, h24, h14⟩ := x4
  refine wpAny_bind (wpAny_bind (wpAny_field he4 hd4 h14 ?_))
  rw [if_neg (by decide)]
  refine wpAny_pure (wpAny_bind (wpAny_handled ?_))
  rw [hh]
  dsimp only
  rw [if_pos (by simpa using ne12)]
  have y4 : ExO h4 e1 t1 cx tb := let ⟨oe, ws, a, r⟩ := y1; ⟨oe, ws, k14 _ _ ne12 a, r⟩
  have bh4 : Behind h4 e1 cx := by
    cases bh with
    | none => exact .none
    | one e0 t0 tb0 hne q =>
      obtain ⟨oe, ws, a, r⟩ := q
      exact .one e0 t0 tb0 hne ⟨oe, ws, k14 _ _ (fun z => by rw [z, hm.new] at a; cases a) (k0 _ _ a), r⟩
  refine wpAny_bind (wpAny_holding (unchain_x (s := { s₁ with heap := h4 }) (t1 := t1) (tb1 := tb) y4 bh4 (fun e0 t0 tb0 q z => ?_) ?_))
  · subst z
    cases bh with
    | one e0 t0' tb0' hne q' =>
      obtain ⟨oe, ws, a, _⟩ := q'
      exact fun z => by rw [z, hm.new] at a; cases a
  unfold updateField
  refine wpAny_bind (wpAny_bind (wpAny_load he4 ?_))
  rw [hd4]
  dsimp only
  have hz4 := z4 _ _ he4 hd4
  rw [if_pos (by omega)]
  refine wpAny_update he4 ?_
  refine wpAny_throw (hE _ ?_ fun b o hb q => ?_)
  · have hd5 := Obj.data_mapFields hd4 (·.setIfInBounds 2 (Value.ref e1))
    refine ⟨_, _, Heap.get?_update_self (Obj.mapFields (·.setIfInBounds 2 (Value.ref e1))) he4 (Obj.isFreed_of_fields hd5), (Obj.cls_mapFields _ _).trans hc4, hd5, ?_, ?_, ?_⟩
    · rw [Array.getElem?_setIfInBounds_ne (by decide)]; exact h04
    · show (ws4.setIfInBounds 2 (Value.ref e1))[2]? = _
      simp [show 2 < ws4.size by omega]
    · rw [Array.getElem?_setIfInBounds_ne (by decide)]; exact h14
  · rw [Heap.get?_update_other _ _ (Ne.symm hb)]
    exact k14 b o hb q
end
end Mine
end
/-! part Exj -/
section
theorem Mine.startExj : True := by
  w_top off
  exact trivial
local macro_rules | `(tactic| walk_at "pad0") => `(tactic| skip)
open PySem PySem.W PyProof.Rows PySem.Calls PySem.Spec
set_option Elab.async false
set_option maxRecDepth 100000
namespace Mine
section
variable {M : Model} {A₀ : Around} {s : Shared} {base g h0 : Heap} {outer : List Env} {env : Env} {L e2 t2 : Addr} {m : Str → Option Value} {cx : Value} {vs : List Value} {n : Str} {pos : Pos} {news : List (Addr × Obj)} {hd : Option Value} {E0 EE : Value → Shared → Prop}
theorem Fl.field1 {B : Heap} {e t : Addr} {cx fl : Value} {A : Around} {E : Value → Shared → Prop} {Q : Value → Shared → Prop} (x : Fl B e t cx fl s.heap) (hq : ∀ v, (v == Value.none) = false → Q v s) : wpAny M A (field (.ref e) 1) Q E s := by
  obtain ⟨T, oT, ts, ⟨oe, vs, he, hc, hd, h0, h2, h1⟩, _⟩ := x
  exact wpAny_field he hd h1 (hq _ (by simp))
theorem frames_of {B h h' : Heap} (k : ∀ b o, h.get? b = some o → (∀ vs, o.data ≠ .fields vs) → ∃ o', h'.get? b = some o' ∧ ∀ vs, o'.data ≠ .fields vs) : ∀ {l : List Env}, h.FunFrames B l → h'.FunFrames B l
  | [], _ => trivial
  | _ :: _, ⟨a, ⟨L, o, b, c, d, e⟩, r⟩ => let ⟨o', x, y⟩ := k L o d e; ⟨a, ⟨L, o', b, c, x, y⟩, frames_of k r⟩
/-- on its way out of a frame that has noted it -/
def Out (B : Heap) (env : Env) (outer : List Env) (EE : Value → Shared → Prop) (e t : Addr) (cx : Value) (L : Addr) (s' : Shared) : Prop :=
  Fl B e t cx (rawInt L) s'.heap ∧ s'.heap.FunFrames B (env :: outer) ∧ B.StaysIn s'.heap ∧ ∀ h5, Fl B e t cx .none h5 → Stay B (env :: outer) s'.heap h5 → EE (.ref e) { s' with heap := h5 }
theorem Out.leave {B : Heap} {e t : Addr} {EE : Value → Shared → Prop} {A : Around} {E : Value → Shared → Prop} {s' : Shared} (hf : env.frame = some L) (x : Out B env outer EE e t cx L s') : wpAny M A (leaving env (.ref e)) (fun _ s'' => EE (.ref e) s'') E s' := by
  obtain ⟨f, fr, bs, k⟩ := x
  unfold leaving
  refine wpAny_bind (note3 (B := B) hf f ?_)
  exact flight (l := env :: outer) none fr bs f fun h5 f5 st5 => k h5 f5 st5
theorem Out.loop {B : Heap} {e t : Addr} {EE : Value → Shared → Prop} {A : Around} {E1 : Value → Shared → Prop} {s' : Shared} (hf : env.frame = some L) (x : Out B env outer EE e t cx L s') (h : ∀ s'', Out B env outer EE e t cx L s'' → E1 (.ref e) s'') :
    notedBy M A env (cameBackBy M A env E1) (.ref e) s' := by
  obtain ⟨f, fr, bs, k⟩ := x
  refine note3 (B := B) hf f ?_
  unfold cameBackBy
  refine wpAny_bind (Fl.field1 f fun v hv => ?_)
  rw [if_neg (by rw [hv]; decide), hf]
  refine flight (l := env :: outer) (some L) fr bs f fun h4 f4 st4 => h _ ⟨f4, st4.frames, st4.base, fun h5 f5 st5 => k h5 f5 (st4.trans st5)⟩
/-- a ValueError raised in a handler's suite goes out of the frame -/
theorem suite_out (K : Below A₀ base outer g) (F : Fr g L h0 m) (N : News g L h0 news) (hnew : h0.get? e2 = none) (hnt : h0.get? t2 = none) (hkeep : ∀ b o, h0.get? b = some o → s.heap.get? b = some o) (htup : s.heap.TupAt t2 vs) (x : ExO s.heap e2 t2 cx .none)
    (hf : env.frame = some L) (hlo : env.locals = L) (hk : env.scope.kind = .function) (hn : env.kindOf n = some .local)
    (hE0 : ∀ B s', Out B env outer EE e2 t2 cx L s' → E0 (.ref e2) s')
    (hQ : ∀ h' tk', RaisedX base g outer e2 t2 cx vs news h' → g.UpToSlots h' → EE (.ref e2) { s with heap := h', toks := tk' }) :
    AsSuiteRaised M ((A₀.deeper env).mark hd) env n pos (notedBy M ((A₀.deeper env).mark hd) env (cameBackBy M (A₀.deeper env) env E0)) (.ref e2) s := by
  obtain ⟨B, b1, b2, b3, b4, b5, b6, bL⟩ := ground_x (env := env) K F N hf hk
  have hfr : (A₀.deeper env).frames = some (env :: outer) := Around.frames_deeper K.stack
  have hfr' : ((A₀.deeper env).mark hd).frames = some (env :: outer) := hfr
  have f5 : s.heap.FunFrames B (env :: outer) := b5.of_keeps fun b o q _ => ⟨o, hkeep b o q, rfl⟩
  have hp : (env.scope.kind == .class || (env.scope.kind == .module && env.locals != env.globals)) = false := by rw [hk]; rfl
  refine note1 (B := B) (t := t2) (cx := cx) hfr' f5 hf (fun b o q => hkeep b o (b4 b o q)) (b6 e2 hnew) x fun h1 f1 st1 => ?_
  have hns1 : h1.Ns env.locals m := by
    rw [hlo]
    exact st1.slots.ns (F.ns.keeps hkeep)
  refine wpAny_nameGoes (s := { s with heap := h1 }) hn hns1 hp fun h2 m2 hns2 hsb => ?_
  rw [hlo] at hsb
  have hLo : ∃ oL es ep, h1.get? L = some oL ∧ oL.data = .dict es ep := by
    obtain ⟨o, es, ep, q, qd, _⟩ := hns1
    rw [hlo] at q
    exact ⟨o, es, ep, q, qd⟩
  obtain ⟨oL, es, ep, hL1, hLd⟩ := hLo
  have heL : ∀ b o, h1.get? b = some o → (∀ es ep, o.data ≠ .dict es ep) → h2.get? b = some o := fun b o q hn => (hsb.2 b (fun z => by rw [z, hL1] at q; cases q; exact hn es ep hLd)).trans q
  have f2 : Fl B e2 t2 cx (rawInt L) h2 := by
    obtain ⟨T, oT, ts, ⟨oe, ws, he, hc, hd, r⟩, hT0, hTe, hT, hdT, h3⟩ := f1
    exact ⟨T, oT, ts, ⟨oe, ws, heL _ _ he (fun _ _ q => by rw [hd] at q; cases q), hc, hd, r⟩, hT0, hTe, heL _ _ hT (fun _ _ q => by rw [hdT] at q; cases q), hdT, h3⟩
  have bs2 : B.StaysIn h2 := fun b o q => (hsb.2 b (fun z => by rw [z, bL] at q; cases q)).trans (st1.base b o q)
  have fr2 : h2.FunFrames B (env :: outer) := frames_of (fun b o q hnf => by
    by_cases hb : b = L
    · obtain ⟨o2, es2, ep2, q2, qd2, _⟩ := hns2
      rw [hlo] at q2
      exact ⟨o2, by rw [hb]; exact q2, fun vs z => by rw [qd2] at z; cases z⟩
    · exact ⟨o, (hsb.2 b hb).trans q, hnf⟩) st1.frames
  have tup2 : h2.TupAt t2 vs := by
    obtain ⟨o, k, q, qc, qd⟩ := htup.of_slots st1.slots
    exact ⟨o, k, heL _ _ q (fun _ _ z => by rw [qd] at z; cases z), qc, qd⟩
  have hLg : ∀ b o, g.get? b = some o → b ≠ L := fun b o q z => by rw [z, kts_self F] at q; cases q
  have ug2 : g.UpToSlots h2 := fun b o q hnf => by
    obtain ⟨sl, z⟩ := ((Heap.UpToSlots.of_keeps fun b o q => hkeep b o (F.keep b o q)).trans st1.slots) b o q hnf
    exact ⟨sl, (hsb.2 b (hLg b o q)).trans z⟩
  unfold PySem.passOn
  refine wpAny_bind (Fl.field1 (s := { s with heap := h2, toks := s.toks + 1 }) f2 fun v hv => ?_)
  rw [if_neg (by rw [hv]; decide)]
  refine wpAny_bind ?_
  rw [hf]
  refine flight (s := { s with heap := h2, toks := s.toks + 1 }) (l := env :: outer) (some L) fr2 bs2 f2 fun h3 f3 st3 => ?_
  refine wpAny_throw ?_
  refine note3 (s := { s with heap := h3, toks := s.toks + 1 }) (B := B) hf f3 ?_
  unfold cameBackBy
  refine wpAny_bind (Fl.field1 (s := { s with heap := h3, toks := s.toks + 1 }) f3 fun v hv => ?_)
  rw [if_neg (by rw [hv]; decide)]
  rw [hf]
  refine flight (s := { s with heap := h3, toks := s.toks + 1 }) (l := env :: outer) (some L) st3.frames st3.base f3 fun h4 f4 st4 => ?_
  refine hE0 B _ ⟨f4, st4.frames, st4.base, fun h5 f5' st5 => ?_⟩
  have st := (st3.trans st4).trans st5
  exact hQ h5 _ ⟨B, b1, b2, b3, st.base, b6 e2 hnew, st.frames.2.2, f5', b6 t2 hnt, tup2.of_slots st.slots⟩ (ug2.trans st.slots)
end
end Mine
end
/-! part Exk -/
section
theorem Mine.startExk : True := by
  w_top off
  exact trivial
open PySem PySem.W PyProof.Rows PySem.Calls PySem.Spec
set_option Elab.async false
set_option maxRecDepth 100000
namespace Mine
theorem slot_ve_format : Slot "ValueError" "__format__" "object.__format__" :=
  .of (owner := "object") (n := "__format__") (by rw [typeLookup_type, builtinLookup_eq_fast]; kernel_rfl) (by decide +kernel) (by decide +kernel) (by decide +kernel)
    (by first | exact .inl (by decide +kernel) | exact .inr (by decide +kernel)) (by rw [isSubtype_type]; kernel_rfl)
section
variable {prog : Program} {w : World} {A : Around} {E : Value → Shared → Prop} {s : Shared} {e t : Addr} {cx : Value} {x : Str} {u : Tok}
/-- a ValueError with one text, put into an f-string -/
theorem format_exc {oe ot : Obj} {Q : Value → Shared → Prop} (he : s.heap.get? e = some oe) (ht : s.heap.get? t = some ot) (C : Caught oe ot t cx [.str x u]) (hu : A.units + 5 < cLine) (hq : Q (.str x u) { s with toks := s.toks + 1 }) :
    wpAny (model prog w) A (formatField (.ref e) Str.empty) Q E s := by
  obtain ⟨⟨ws, c1, c2, c3, _⟩, n, c4, c5⟩ := C
  have xe : ({ s with toks := s.toks + 1 } : Shared).heap.ExcAt e "ValueError" (.ref t) := ⟨oe, ws, he, c1, c2, c3⟩
  have xt : ({ s with toks := s.toks + 1 } : Shared).heap.TupAt t [.str x u] := ⟨ot, n, ht, c4, c5⟩
  have hT : ({ s with toks := s.toks + 1 } : Shared).TypeIs (.ref e) "ValueError" := ⟨oe, he, c1⟩
  show wpAny _ _ (holding [.ref e] (pyFormat (.ref e) Str.empty)) Q E s
  refine wpAny_holding ?_
  unfold pyFormat
  refine wpAny_bind (wpAny_mkStr ?_)
  refine wpAny_bind (m := callSpecial? (.ref e) (Str.ofString "__format__") [.str Str.empty s.toks]) (wpAny_callSpecial?_slot (name := Str.ofString "__format__") hT slot_ve_format ?_)
  refine wpAny_call_entry slot_ve_format hT F.entry_object_format ?_ (F.args_object_format_2 _ _)
  show wpAny _ _ (do let _shown ← typeNameOf (.str Str.empty s.toks); (do ret (← pyStrObj (.ref e)))) _ _ _
  refine wpAny_bind (wpAny_typeNameOf (T := "str") (typeIs_str _ _ _) (by decide) fun _ => ?_)
  refine wpAny_bind (pyStrObj_exc_one PySem.F.excStr_ValueError (by show A.units + 1 < cLine; omega) xe xt ?_)
  exact wpAny_pure ⟨_, rfl, wpAny_bind (wpAny_isInstance (T := "str") (b := true) rfl isSubtype_str_str (wpAny_pure hq))⟩
end
end Mine
end
/-! part Fical -/
section
theorem Mine.startFical : True := by
  w_top off
  exact trivial
local macro_rules | `(tactic| walk_at "pad0") => `(tactic| skip)
local macro_rules | `(tactic| walk_at "pad1") => `(tactic| skip)
open PySem PySem.W PyProof.Rows PySem.Calls PySem.Spec
set_option Elab.async false
set_option maxRecDepth 100000
namespace Mine
section Fical
open DS
theorem allLt_mem {d : Nat} : ∀ {l : List (Addr × Obj)}, AllLt d l → ∀ p ∈ l, p.1 < d
  | [], _, _, h => nomatch h
  | _ :: _, x, p, h => by
    rcases List.mem_cons.mp h with rfl | h
    · exact x.1
    · exact allLt_mem x.2 p h
theorem qs_len {c : Nat} {mx : Int} : ∀ (x : List Nat) (inq : Bool) (cur : List Nat) (res : List (List Nat)) (k : Int), ∀ p ∈ qs c mx x inq cur res k, p ∈ res ∨ p.length ≤ cur.length + x.length
  | [], _, _, _, _, p, h => .inl h
  | d :: rest, inq, cur, res, k, p, h => by
    unfold qs at h
    dsimp only at h
    generalize (if d = 34 then !inq else inq) = inq' at h
    by_cases hh : (!inq' && d == c) = true
    · simp only [hh, if_true] at h
      split at h
      · rcases List.mem_append.mp h with h | h
        · rcases List.mem_append.mp h with h | h
          · exact .inl h
          · rw [List.mem_singleton.mp h]; right; omega
        · rw [List.mem_singleton.mp h]; right; simp
      · split at h
        · rcases List.mem_append.mp h with h | h
          · rcases List.mem_append.mp h with h | h
            · exact .inl h
            · rw [List.mem_singleton.mp h]; right; omega
          · rw [List.mem_singleton.mp h]; right; first | (simp; done) | (simp; omega)
        · rcases qs_len rest _ _ _ _ p h with h | h
          · rcases List.mem_append.mp h with h | h
            · exact .inl h
            · rw [List.mem_singleton.mp h]; right; omega
          · right; simp at h ⊢; omega
    · rw [Bool.not_eq_true] at hh
      simp only [hh, Bool.false_eq_true, if_false] at h
      split at h
      · rcases List.mem_append.mp h with h | h
        · exact .inl h
        · rw [List.mem_singleton.mp h]; right; simp
      · split at h
        · rcases List.mem_append.mp h with h | h
          · exact .inl h
          · rw [List.mem_singleton.mp h]; right; first | (simp; done) | (simp; omega)
        · rcases qs_len rest _ _ _ _ p h with h | h
          · exact .inl h
          · right; simp at h ⊢; omega
theorem qs_num {c : Nat} {mx : Int} : ∀ (x : List Nat) (inq : Bool) (cur : List Nat) (res : List (List Nat)) (k : Int), (qs c mx x inq cur res k).length ≤ res.length + x.length + 1
  | [], _, _, res, _ => by unfold qs; omega
  | d :: rest, inq, cur, res, k => by
    unfold qs
    dsimp only
    generalize (if d = 34 then !inq else inq) = inq'
    by_cases hh : (!inq' && d == c) = true
    · simp only [hh, if_true]
      split
      · simp
      · split
        · simp
        · refine Nat.le_trans (qs_num rest _ _ _ _) ?_
          first | (simp; done) | (simp; omega)
    · rw [Bool.not_eq_true] at hh
      simp only [hh, Bool.false_eq_true, if_false]
      split
      · first | (simp; done) | (simp; omega)
      · split
        · first | (simp; done) | (simp; omega)
        · refine Nat.le_trans (qs_num rest _ _ _ _) ?_
          first | (simp; done) | (simp; omega)
/-- one value of a parameter -/
def upF (v : List Nat) : List Nat := (Txt.upper (S v)).cps.toList
def qF (v : List Nat) : Bool := Txt.startswith (S v) (Str.ofString "\"") && Txt.endswith (S v) (Str.ofString "\"")
/-- what one value becomes -/
def PV (b : Bool) (v r : List Nat) : Prop := if qF v then (∃ z, Txt.stripChars (S v) (Str.ofString "\"") = S z ∧ r = rf z ∧ ∀ c ∈ z, NoHit qunsafeCode c) else (∀ c ∈ v, NoHit unsafeCode c) ∧ r = rf (if b then upF v else v) ∧ (upF v).length ≤ 1000
def uvOf (val : List Nat) : List (List Nat) → UV
  | [] => .one (S val)
  | [r] => .one (S r)
  | rs => .many (rs.map S)
/-- one parameter -/
def PTurn (b : Bool) (p : List Nat) (ku : Str × UV) : Prop := ∃ k val rs, ku = (S k, uvOf val rs) ∧ qs 61 1 p false [] [] 0 = [k, val] ∧ NameOk (S k) true ∧ rs.length = (qs 44 (-1) val false [] [] 0).length ∧
  ∀ (j : Nat) (v : List Nat), (qs 44 (-1) val false [] [] 0)[j]? = some v → ∃ r, rs[j]? = some r ∧ PV b v r
/-- a parameter whose key is refused -/
def PBad (p : List Nat) : Prop := (∀ c ∈ p, c < 16 ^ 8) ∧ ∃ k val, qs 61 1 p false [] [] 0 = [k, val] ∧ NameOk (S k) false
/-- an exception with nothing behind it -/
def ExcB (o0 : Obj) (t0 : Addr) : Prop := ∃ ws, o0.cls = .type "ValueError" ∧ o0.data = .fields ws ∧ ws[0]? = some (.ref t0) ∧ ws[2]? = some .none
theorem RaisedX.sub {base G : Heap} {l : List Env} {e t : Addr} {cx : Value} {vs : List Value} {news news' : List (Addr × Obj)} {h : Heap} (R : RaisedX base G l e t cx vs news h) (k : ∀ p ∈ news', p ∈ news) : RaisedX base G l e t cx vs news' h := by
  obtain ⟨B, b1, b2, b3, r⟩ := R
  exact ⟨B, b1, b2, fun q hq => b3 q (k q hq), r⟩
theorem first_item {prog : Program} {w : World} {A : Around} {E : Value → Shared → Prop} {s : Shared} {h₀ : Heap} {L D : Addr} {news : List (Addr × Obj)} {value slice : Expr} {vs : Array Value} {n : Nat} {u : Tok} {Q : Value → Shared → Prop} {v : Value}
    (N : News h₀ L s.heap news) (hm : (D, listOf vs n) ∈ news) (hv : vs[0]? = some v) (h : Q v s)
    (hs : subscripted slice false (.ref D) (.int 0 u) = operate [.ref D, .int 0 u] (getItem (.ref D) (.int 0 u))) : wpAny (model prog w) A (subscriptTail value slice (.ref D) (.int 0 u)) Q E s := by
  have hl : s.heap.IsList D vs := ⟨_, (N _ hm).1, rfl, n, rfl⟩
  exact tail_any (Heap.IsList.typeIs hl) slot_list_getitem.lookup (wpAny_getItem_list hl (by decide) (by decide) hv h) hs
local macro_rules | `(tactic| walk_at "call type:ValueError") => `(tactic| refine TEnd.out ?_)
local macro_rules | `(tactic| walk_at "exec For") => `(tactic| refine TEnd.out ?_)
local macro_rules | `(tactic| walk_at "exec For Name Call") => `(tactic| refine TEnd.out ?_)
local macro_rules | `(tactic| walk_at "exec For Name Call cons nil") => `(tactic| refine TEnd.out ?_)
local macro_rules | `(tactic| walk_at "call builtin:str.strip") => `(tactic| (k_here; (with_reducible show wpAny _ _ (call (Value.builtin "str.strip") [Value.str _ _, Value.str _ _]) _ _ _); (refine SCL.stripChars (hsz := ?hsz) ?_); (case hsz => (rw [PySem.sizeLine_eq]; omega)); intro _ _ _))
local macro_rules | `(tactic| walk_at "truthy ref") => `(tactic| (k_here; (with_reducible show wpAny _ _ (truthy (Value.ref _)) _ _ _); k_dflt (refine' truthy_l ?a ?b ?c ?_; (case a => k_asm); (case b => k_mem); (case c => first | assumption | omega | exact Nat.le_of_ble_eq_true rfl); k_whole)))
local macro_rules | `(tactic| walk_at "call builtin:list.append") => `(tactic| refine TEnd.out ?_)
local macro_rules | `(tactic| walk_at "call ref") => `(tactic| refine TEnd.out ?_)
local macro_rules | `(tactic| k_room) => `(tactic| ktr_room)
local macro_rules | `(tactic| k_units) => `(tactic| ktr_units)
local macro_rules | `(tactic| k_all) => `(tactic| assumption)
local macro_rules | `(tactic| walk_at "eval Name") => `(tactic| (k_here; k_dflt (first
  | (refine' ld ?k1 ?k2 ?_; (case k1 => k_asm); (case k2 => first | exact rfl | assumption); k_whole)
  | (refine' nameX_L ?F ?v ?_ ?a ?b; (case F => k_asm); (case a => rfl); (case b => rfl); (case v => first | exact rfl | assumption); k_whole))))
local macro_rules | `(tactic| walk_at "loadName") => `(tactic| (k_here; k_dflt (refine' ldn ?k1 ?k2 ?_; (case k1 => k_asm); (case k2 => first | exact rfl | assumption); k_whole)))
local macro_rules | `(tactic| walk_at "subscriptTail Name Constant ref int") => `(tactic| (k_here; (with_reducible show wpAny _ _ (subscriptTail _ _ (Value.ref _) (Value.int _ _)) _ _ _); k_dflt (refine' first_item ?N ?m ?v ?_ ?k; (case N => k_asm); (case m => k_mem); (case v => rfl); (case k => with_unfolding_all rfl); k_whole)))
set_option pp.deepTerms false
set_option pp.maxSteps 3000
set_option maxHeartbeats 4000000 in
theorem fical_w {w : World} {mean : ExcName → Option Value} {mg mb : Str → Option Value}
    {dp un : Nat} {gd : Option (List Code)} {cn : Str} {nms : List (Str × NameKind)} {ig ic : Bool} {mo : List (Str × Const)} {a : Addr} {ccd : Value} {cl : List (Str × Addr)} {outer : List Env} {A₀ : Around} {base h₀ : Heap} {L : Addr} {m : Str → Option Value} {s : Shared}
    {Q E : Value → Shared → Prop} {news : List (Addr × Obj)} {args : Args} {y : Str} {t : Tok} {x : List Nat} {b : Bool} {oT : Obj} {kus : List (Str × UV)}
    (B : Below A₀ base outer h₀) (F : Fr h₀ L s.heap m) (X : (K0 w.params).In h₀) (N : News h₀ L s.heap ((216, oT) :: news)) (T : Top hd.view_39 loos mean mg mb h₀) (XB : (K0 w.params).In base) (TB : Top hd.view_39 loos mean mg mb base) (D0 : KtsDicts (outer.filterMap (·.frame)) h₀) (G : AllBare s.gens)
    (hb : BindsTo s (fdAt (K0 w.params) 268) args [(Str.ofString "cls", .ref 282), (Str.ofString "st", .str y t), (Str.ofString "strict", .bool b)])
    (hn216 : ∀ p ∈ news, p.1 ≠ 216) (hT : TabLike oT) (hy : y = S x)
    (hx : y.length ≤ 900) (hdp : dp ≤ 400) (hup : un ≤ 4000)
    (HN : kus.length ≤ (qs 59 (-1) x false [] [] 0).length) (HK : ∀ (i : Nat) (p : List Nat), i < kus.length → (qs 59 (-1) x false [] [] 0)[i]? = some p → ∃ ku, kus[i]? = some ku ∧ PTurn b p ku) (HBad : ∀ p, (qs 59 (-1) x false [] [] 0)[kus.length]? = some p → PBad p) (hnd : (kus.map fun p => Txt.upper p.1).Nodup)
    (hE : kus.length < (qs 59 (-1) x false [] [] 0).length → ∀ g' e t e0 o0 t0 txt tok h' tk' gs' oT9, TabLike oT9 → Fr h₀ L g' m → RaisedX base g' (envX cn { kind := .function, names := nms, isGenerator := ig, isCoroutine := ic, more := mo } L a ccd cl :: outer) e t (.ref e0) [.str txt tok] ((e0, o0) :: (216, oT9) :: news) h' → ExcB o0 t0 → txt.length ≤ 10000 → g'.UpToSlots h' → AllBare gs' → E (.ref e) { s with heap := h', toks := tk', gens := gs' }) (hret : kus.length = (qs 59 (-1) x false [] [] 0).length → ∀ D Dd h' tk gs es ep ls kvs oT', AllBare gs → TabLike oT' → Fr h₀ L h' m → News h₀ L h' ((D, pob 282 Dd es ep) :: (Dd, dict0) :: (216, oT') :: (ls ++ news)) → (∀ p ∈ (Dd, dict0) :: (216, oT') :: (ls ++ news), p.1 ≠ D) → (∀ p ∈ ls, p.1 ≠ D ∧ p.1 ≠ 216 ∧ (∀ q ∈ (Dd, dict0) :: news, q.1 ≠ p.1) ∧ ∃ ys n, p.2 = listOf ys n) → Ents es.toList kvs → UVals ls (kus.map fun p => (Txt.upper p.1, p.2)) kvs → Q (.ref D) { s with heap := h', toks := tk, gens := gs }) :
    codeAny (model PySem.Challenge.rw_bl0007_01.row.prog w) (cal dp un gd cn nms ig ic mo L a ccd cl outer) (.call (.ref 268) args) (fun r s' => match r with | .ok (.ret v) => Q v s' | .ok _ => False | .error e => E e s') s := by
  have hd1 : dp + 20 < recursionLimit := by have : recursionLimit = 1000 := rfl; omega
  have hu1 : un + 400 < cLine := by have : cLine = 9900 := rfl; omega
  revert X; k_fill; intro X
  k_dflt (refine' code_def (binds := [(Str.ofString "cls", .ref 282), (Str.ofString "st", .str y t), (Str.ofString "strict", .bool b)]) ?k1 ?k2 ?k3 ?k4 ?k5 ?kA ?kF ?kK ?k6 ?k7 ?k8 ?k9 ?kB ?_ ?c2 ?c3 ?c4 ?c5; (case kA => exact rfl); (case kF => exact rfl); (case kK => exact rfl); (case k1 => k_asm); (case k2 => k_asm); (case k3 => k_asm); (case k4 => k_asm); (case k5 => k_asm); (case k6 => k_is); (case k7 => k_is); (case k8 => k_room); (case k9 => exact hb); (case c5 => decide); (case kB => exact locs rfl); (case c2 => exact rfl); (case c3 => exact rfl); (case c4 => exact rfl); k_whole; intro g' L' h' FG' F' N' B' X' T'; (try dsimp only); (try k_lift B'); (try k_fold))
  k_steps
  refine TEnd.mk ?_
  refine pnew_w F' X' N' T' (by show dp + 1 ≤ 500; omega) (by show un + 3 ≤ 5000; omega) rfl ?_
  intro D Dd h1 tk1 F1 N1 hne1 hne2
  dsimp only
  k_steps
  refine TEnd.mk ?_
  refine wpAny_For ?_ (fun _ => rfl)
  k_steps
  refine TEnd.mk ?_
  have hrl : recursionLimit = 1000 := rfl
  have hcl : cLine = 9900 := rfl
  refine qsplit_2 (c0 := 59) (x := x) (by assumption) (by assumption) X' (by assumption) T' hy (by decide +kernel) (by omega) (by show dp + 1 + 20 < _; omega) (by show un + 3 + 400 < _; omega) ?_
  intro l h2 tk2 vs n hvs hl F2 N2
  dsimp only
  refine list_loop (D := l) (vs := vs.toArray) (nc := n) rfl rfl rfl rfl
    (fun i gs m' nw => i ≤ kus.length ∧ AllBare gs ∧ m' (Str.ofString "cls") = some (.ref 282) ∧ m' (Str.ofString "strict") = some (.bool b) ∧ m' (Str.ofString "result") = some (.ref D) ∧ ∃ es ep oT ls kvs, TabLike oT ∧ (∀ p ∈ ls, p.1 ≠ D ∧ p.1 ≠ 216 ∧ (∀ q ∈ (Dd, dict0) :: news, q.1 ≠ p.1) ∧ ∃ ys n, p.2 = listOf ys n) ∧ nw = (216, oT) :: (l, listOf vs.toArray n) :: (D, pob 282 Dd es ep) :: (Dd, dict0) :: (ls ++ news) ∧ Ents es.toList kvs ∧ UVals ls ((kus.take i).map fun p => (Txt.upper p.1, p.2)) kvs)
    (fun i gs m' nw ⟨_, _, _, _, _, _, _, _, _, _, _, _, e, _⟩ => by rw [e]; exact .tail _ (.head _)) F2 (news₀ := (216, oT) :: (l, listOf vs.toArray n) :: (D, pob 282 Dd #[] 0) :: (Dd, dict0) :: ([] ++ news)) ?N0 ?J0 ?turn ?done
  case N0 =>
    intro p hp
    refine N2 p ?_
    simp only [List.mem_cons, List.mem_append] at hp ⊢
    rcases hp with h | h | h | h | (h | h) <;> first | (simp [h]; done) | cases h
  case J0 => exact ⟨Nat.zero_le _, G, rfl, rfl, rfl, _, _, _, [], [], hT, (fun _ h => nomatch h), rfl, .nil, .nil⟩
  case done =>
    rintro h tk gs m' nw htk ⟨hij, hG, hm1, hm2, hm3, es, ep, oT', ls, kvs, hT', hls, rfl, he, huv⟩ F3 N3
    have hvl0 : vs.toArray.size = (qs 59 (-1) x false [] [] 0).length := by simp [strs_len hvs]
    have hvl : vs.toArray.size = kus.length := by omega
    rw [hvl, List.take_length] at huv
    dsimp only
    k_steps
    rename_i F9 N9 _ _ _
    refine hret (by omega) D Dd _ _ _ es ep ls kvs oT' hG hT' (by assumption) (fun p hp => (by assumption : News h₀ L h _) p ?_) ?_ hls he huv
    · simp only [List.mem_cons, List.mem_append] at hp ⊢
      rcases hp with h | h | h | h | h <;> simp [h]
    · intro p hp
      simp only [List.mem_cons, List.mem_append] at hp
      rcases hp with h | h | h | h
      · rw [h]; exact hne1 (Dd, dict0) (by simp)
      · rw [h]; exact hne1 (216, oT) (by simp)
      · exact (hls p h).1
      · exact hne1 p (by simp [h])
  case turn =>
    rintro i v h tk gs m' nw I oI htk hv ⟨hij, hG, hm1, hm2, hm3, es, ep, oT', ls, kvs, hT', hls, rfl, he, huv⟩ F3 N3 hnI
    obtain ⟨q, tq, hq1, rfl⟩ := strs_at hvs i v (by simpa using hv)
    obtain ⟨p, hp, rfl⟩ : ∃ p, (qs 59 (-1) x false [] [] 0)[i]? = some p ∧ q = S p := by
      rw [List.getElem?_map] at hq1
      cases z : (qs 59 (-1) x false [] [] 0)[i]? with
      | none => rw [z] at hq1; cases hq1
      | some p => rw [z] at hq1; exact ⟨p, rfl, (Option.some.inj hq1).symm⟩
    have hpl : (S p).length ≤ 900 := by
      rcases qs_len x _ _ _ _ p (List.mem_of_getElem? hp) with h | h
      · cases h
      · rw [hy, S_len] at hx; rw [S_len]; simp at h; omega
    k_steps
    refine TEnd.mk ?_
    refine qsplit_3 (c0 := 61) (x := p) (by assumption) (by assumption) X' (by assumption) T' rfl (by decide +kernel) (by omega) (by show dp + 1 + 20 < _; omega) (by show un + 3 + 400 < _; omega) ?_
    intro l2 h4 tk4 vs2 n2 hvs2 hl2 F4 N4
    obtain ⟨k, val, hqs, hkind⟩ : ∃ k val, qs 61 1 p false [] [] 0 = [k, val] ∧ ((i = kus.length ∧ NameOk (S k) false ∧ ∀ c ∈ p, c < 16 ^ 8) ∨ (i < kus.length ∧ ∃ rs, kus[i]? = some (S k, uvOf val rs) ∧ NameOk (S k) true ∧ rs.length = (qs 44 (-1) val false [] [] 0).length ∧
      ∀ (j : Nat) (v : List Nat), (qs 44 (-1) val false [] [] 0)[j]? = some v → ∃ r, rs[j]? = some r ∧ PV b v r)) := by
      rcases Nat.lt_or_ge i kus.length with hlt | hge
      · obtain ⟨ku, hku, k, val, rs, rfl, hqs, hnk, hrl0, hrs⟩ := HK i p hlt hp
        exact ⟨k, val, hqs, .inr ⟨hlt, rs, hku, hnk, hrl0, hrs⟩⟩
      · have hi : i = kus.length := by omega
        obtain ⟨hpc, k, val, hqs, hnk⟩ := HBad p (hi ▸ hp)
        exact ⟨k, val, hqs, .inl ⟨hi, hnk, hpc⟩⟩
    have hkl : (S k).length ≤ 900 := by
      rcases qs_len p _ _ _ _ k (by rw [hqs]; simp) with h | h
      · cases h
      · rw [S_len] at hpl ⊢; simp at h; omega
    have hvl : (S val).length ≤ 900 := by
      rcases qs_len p _ _ _ _ val (by rw [hqs]; simp) with h | h
      · cases h
      · rw [S_len] at hpl ⊢; simp at h; omega
    rw [hqs] at hvs2
    obtain ⟨t1, t2, rfl⟩ : ∃ t1 t2, vs2 = [.str (S k) t1, .str (S val) t2] := by
      cases hvs2 with | cons _ t1 r => cases r with | cons _ t2 r => cases r; exact ⟨t1, t2, rfl⟩
    dsimp only
    k_steps
    refine TEnd.mk ?_
    rename_i h5 F5 N5
    rcases hkind with ⟨hi0, hnk, hpc⟩ | ⟨hi0, rs, hku, hnk, hrl0, hrs⟩
    · refine vtok_bad (by assumption) F5 X' N5 T' (by omega) hnk (by show dp + 1 + 20 < _; omega) (by show un + 3 + 400 < _; omega) ?_
      intro g9 e9 t9 h9 tk9 F9 R9 U9
      refine caught_asX R9 F9 B' U9 XB TB (ktsD rfl FG' D0) rfl rfl rfl rfl rfl rfl rfl (by k_is) ?_
      intro h10 g10 oe ot tk10 T10 F10 N10 C10 B10 X10 P10 D10
      refine wpAny_execs_cons ?_
      refine raise_from (e1 := e9) rfl rfl rfl (by decide) ?_
      k_steps
      have hrp : (reprText (S p)).length ≤ 9002 := by have := StrLaws.reprText_len (S p) hpc; omega
      refine wpAny_pyReprObj_str ?_ (by rw [PySem.sizeLine_eq]; omega)
      generalize reprText (S p) = rp at hrp ⊢
      dsimp only
      k_steps
      refine format_exc (N10 _ (.head _)).1 (N10 _ (.tail _ (.head _))).1 C10 (by show un + 3 + 5 < cLine; omega) ?_
      have hlen : (Str.empty ++ rp ++ Str.ofString " is not a valid parameter string: " ++ S k).length ≤ 10000 := by
        have h1 : (Str.ofString " is not a valid parameter string: ").length = 34 := by decide +kernel
        have h2 : Str.empty.length = 0 := rfl
        rw [Str.length_append, Str.length_append, Str.length_append, h1, h2]; omega
      dsimp only
      refine ⟨by rw [PySem.sizeLine_eq]; omega, ?_⟩
      generalize Str.empty ++ rp ++ Str.ofString " is not a valid parameter string: " ++ S k = txt at hlen ⊢
      k_steps
      refine TEnd.mk ?_
      refine wpAny_call_exc PySem.F.excCall_ValueError (fun h12 e12 M12 => ?_) (by rw [PySem.sizeLine_eq]; exact Nat.le_of_ble_eq_true rfl)
      dsimp only
      rename_i tk11
      obtain ⟨⟨ws, c1, c2, c3, c4⟩, n10, c5, c6⟩ := C10
      obtain ⟨t12, q1, q2, q3⟩ := M12.there
      have x9 : ExO h10 e9 t9 .none (ws.getD 1 .none) := ⟨oe, ws, (N10 _ (.head _)).1, c1, c2, c3, c4, by
        have : 2 < ws.size := (Array.getElem?_eq_some_iff.mp c4).1
        simp [Array.getD, show 1 < ws.size by omega]⟩
      refine ⟨e12, t12, h10, .none, _, _, _, t9, rfl, M12, F10.ns, rfl, x9, .none, q1, fun h13 x13 k13 => ?_⟩
      refine suite_out (hd := some (.ref e9)) (EE := E) (vs := [.str txt (tk11 + 1 + 1)]) B10 F10 N10 M12.new q2 (fun b o q => k13 b o (fun z => by rw [z, M12.new] at q; cases q) (M12.keeps b o q)) ⟨_, _, k13 _ _ (fun z => by rw [z, q1] at q3; exact absurd (congrArg Obj.cls (Option.some.inj q3)) (by simp)) q3, rfl, rfl⟩ x13 rfl rfl rfl rfl ?_ ?_
      · intro B9 s9 o9
        exact o9.loop rfl fun s10 o10 => o10.leave rfl
      · intro h14 tk14 R14 U14
        exact hE (hi0 ▸ (List.getElem?_eq_some_iff.mp hp).1) g' e12 t12 e9 oe t9 txt _ h14 tk14 gs oT' hT' FG' ((R14.back T10).sub (by
          intro q hq
          rcases List.mem_cons.mp hq with h | h
          · simp [h]
          · rcases List.mem_cons.mp h with h | h
            · simp [h]
            · simp [h])) ⟨ws, c1, c2, c3, c4⟩ hlen ((slots_turn T10).trans U14) hG
    refine vtok_ok (X'.keeps F5.keep) (T'.keeps F5.keep) (by show dp + 1 + 20 < _; omega) (by omega) hnk ?_
    intro h6 tk6 hk6
    have F6 := F5.keeps hk6
    have N6 := N5.grown hk6
    clear F5 N5
    dsimp only
    k_steps
    refine TEnd.mk ?_
    refine wpAny_For ?_ (fun _ => rfl)
    k_steps
    refine TEnd.mk ?_
    refine qsplit_2 (c0 := 44) (x := val) (by assumption) (by assumption) X' (by assumption) T' rfl (by decide +kernel) (by omega) (by show dp + 1 + 20 < _; omega) (by show un + 3 + 400 < _; omega) ?_
    intro l3 h7 tk7 vs3 n3 hvs3 hl3 F7 N7
    dsimp only
    rename_i VL _ hVL _ _ _
    have hVLn : ∀ p ∈ (I, oI) :: (216, oT') :: (l, listOf vs.toArray n) :: (D, pob 282 Dd es ep) :: (Dd, dict0) :: (ls ++ news), p.1 ≠ VL := by
      obtain ⟨_, a2, a3, a4, a5, a6, a7⟩ := hVL
      intro p hp
      simp only [List.mem_cons] at hp
      rcases hp with h | h | h | h | h | h
      · rw [h]; exact Nat.ne_of_lt a2
      · rw [h]; exact Nat.ne_of_lt a3
      · rw [h]; exact Nat.ne_of_lt a4
      · rw [h]; exact Nat.ne_of_lt a5
      · rw [h]; exact Nat.ne_of_lt a6
      · exact Nat.ne_of_lt (allLt_mem a7 p h)
    have hl3V : l3 ≠ VL := Nat.ne_of_gt (hl3 _ (.head _))
    have hlenV : vs3.length = rs.length := by rw [hrl0, strs_len hvs3, List.length_map]
    have hrl : rs.length ≤ 1000 := by
      rw [hrl0]
      refine Nat.le_trans (qs_num _ _ _ _ _) ?_
      rw [S_len] at hvl; simp; omega
    have hD216 : D ≠ 216 := fun e => hne1 (216, oT) (by simp) e.symm
    have hDl : l ≠ D := Nat.ne_of_gt (hl (D, pob 282 Dd #[] 0) (by simp))
    have hl216 : l ≠ 216 := Nat.ne_of_gt (hl (216, oT) (by simp))
    have hDd216 : Dd ≠ 216 := fun e => hne2 (216, oT) (by simp) e.symm
    have hI216 : I ≠ 216 := fun e => hnI (216, oT') (by simp) e.symm
    have hID : I ≠ D := fun e => hnI (D, pob 282 Dd es ep) (by simp) e.symm
    refine list_loop (D := l3) (vs := vs3.toArray) (nc := n3) rfl rfl rfl rfl
      (fun i2 gs2 m2 nw2 => AllBare gs2 ∧ m2 (Str.ofString "cls") = some (.ref 282) ∧ m2 (Str.ofString "strict") = some (.bool b) ∧ m2 (Str.ofString "result") = some (.ref D) ∧ m2 (Str.ofString "key") = some (.str (S k) t1) ∧ m2 (Str.ofString "val") = some (.str (S val) t2) ∧ m2 (Str.ofString "vals") = some (.ref VL) ∧
        ∃ ws nws oT2, StrsAre ws ((rs.take i2).map S) ∧ TabLike oT2 ∧ nw2 = (216, oT2) :: (l3, listOf vs3.toArray n3) :: (VL, listOf ws.toArray nws) :: (I, oI) :: (l, listOf vs.toArray n) :: (D, pob 282 Dd es ep) :: (Dd, dict0) :: (ls ++ news))
      (fun i2 gs2 m2 nw2 ⟨_, _, _, _, _, _, _, _, _, _, _, _, e⟩ => by rw [e]; exact .tail _ (.head _)) F7 (news₀ := (216, oT') :: (l3, listOf vs3.toArray n3) :: (VL, listOf #[] 0) :: (I, oI) :: (l, listOf vs.toArray n) :: (D, pob 282 Dd es ep) :: (Dd, dict0) :: (ls ++ news)) ?N1 ?J1 ?turn1 ?done1
    case N1 =>
      intro p hp
      refine N7 p ?_
      simp only [List.mem_cons] at hp ⊢
      rcases hp with h | h | h | h | h | h | h | h <;> simp [h]
    case J1 => exact ⟨hG, hm1, hm2, hm3, rfl, rfl, rfl, [], 0, oT', .nil, hT', rfl⟩
    case done1 =>
      rintro h8 tk8 gs2 m2 nw2 htk8 ⟨hG2, hb1, hb2, hb3, hb4, hb5, hb6, ws, nws, oT2, hws, hT2, rfl⟩ F8 N8
      rw [show vs3.toArray.size = rs.length by simpa using hlenV, List.take_length] at hws
      have hkk : Txt.upper (S k) ∉ kvs.map (·.1) := by
        rw [huv.keys]
        intro hm
        obtain ⟨y, hy, e⟩ := List.mem_map.mp hm
        obtain ⟨y', hy', rfl⟩ := List.mem_map.mp hy
        dsimp only at e
        obtain ⟨n1, hn1, hn2⟩ := List.getElem_of_mem hy'
        rw [List.getElem_take] at hn2
        have hn3 : n1 < i ∧ n1 < kus.length := by simp only [List.length_take] at hn1; omega
        obtain ⟨hj1, hj2⟩ := List.getElem?_eq_some_iff.mp hku
        exact (List.pairwise_iff_getElem.mp hnd) n1 i (by simpa using hn3.2) (by simpa using hj1) hn3.1 (by simp only [List.getElem_map, hn2, hj2, e])
      have hkz : kvs.length ≤ 1000 := by
        have h1 := congrArg List.length huv.keys
        have h2 := qs_num (c := 59) (mx := -1) x false [] [] 0
        rw [hy, S_len] at hx
        simp only [List.length_map, List.length_take, List.length_nil] at h1 h2
        omega
      have N13 : News g' L' h8 ((D, pob 282 Dd es ep) :: (216, oT2) :: (l3, listOf vs3.toArray n3) :: (VL, listOf ws.toArray nws) :: (I, oI) :: (l, listOf vs.toArray n) :: (Dd, dict0) :: (ls ++ news)) := fun p hp => N8 p (by
        simp only [List.mem_cons] at hp ⊢
        rcases hp with h | h | h | h | h | h | h | h <;> simp [h])
      have hne13 : ∀ p ∈ (216, oT2) :: (l3, listOf vs3.toArray n3) :: (VL, listOf ws.toArray nws) :: (I, oI) :: (l, listOf vs.toArray n) :: (Dd, dict0) :: (ls ++ news), p.1 ≠ D := by
        intro p hp
        simp only [List.mem_cons, List.mem_append] at hp
        rcases hp with h | h | h | h | h | h | h | h
        · rw [h]; exact hD216.symm
        · rw [h]; exact Nat.ne_of_gt (hl3 (D, pob 282 Dd es ep) (by simp))
        · rw [h]; exact fun e => hVLn (D, pob 282 Dd es ep) (by simp) e.symm
        · rw [h]; exact hID
        · rw [h]; exact hDl
        · rw [h]; exact hne1 (Dd, dict0) (by simp)
        · exact (hls p h).1
        · exact hne1 p (by simp [h])
      match rs, hws, hrs, hku with
      | [], .nil, hrs, hku =>
        k_steps
        · refine ksp_setItem (x := D) (C := 282) (od := some dict0) (ox := pob 282 Dd es ep) (f := 78) (by assumption) X' ⟨(N8 (D, pob 282 Dd es ep) (by simp)).1, rfl, rfl, (N8 (Dd, dict0) (by simp)).1⟩ (by k_is) (by k_is) (by k_is) ?_
          refine setitem_w (by assumption) X' N13 T' (by show dp + 1 + 20 < _; omega) (Dd := Dd) (oDd := dict0) (by simp) (.head hne13) he hkk hkz (by omega) ?_
          intro h14 tk14 es14 ep14 F14 N14 he14
          replace N14 : News g' L' h14 ((D, pob 282 Dd es14 ep14) :: (216, oT2) :: (l3, listOf vs3.toArray n3) :: (VL, listOf ([] : List Value).toArray nws) :: (I, oI) :: (l, listOf vs.toArray n) :: (Dd, dict0) :: (ls ++ news)) := N14
          dsimp only
          k_steps
          refine ⟨⟨_, _, _, _, _, rfl, F14, ?_, ?_, hi0, hG2, hb1, hb2, hb3, es14, ep14, oT2, [] ++ ls, _, hT2, ?_, rfl, he14, ?_⟩⟩
          · intro p hp
            refine N14 p ?_
            simp only [List.mem_cons, List.mem_append, List.not_mem_nil, false_or, or_false] at hp ⊢
            rcases hp with h | h | h | h | h | h | h <;> simp [h]
          · intro p hp
            simp only [List.mem_cons, List.mem_append, List.not_mem_nil, false_or, or_false] at hp
            rcases hp with h | h | h | h | h | h
            · rw [h]; exact hI216.symm
            · rw [h]; exact hnI (l, listOf vs.toArray n) (by simp)
            · rw [h]; exact hID.symm
            · rw [h]; exact hnI (Dd, dict0) (by simp)
            · exact hnI p (by simp [h])
            · exact hnI p (by simp [h])
          · intro p hp
            exact hls p hp
          · rw [List.take_add_one, hku, List.map_append]
            exact UVals.snoc (show UVal _ (.one (S val)) _ from ⟨_, rfl⟩) (huv.mono fun p hp => List.mem_append.mpr (.inr hp))
      | [r1], .cons _ tr .nil, hrs, hku =>
        k_steps
        · exact absurd (show (#[Value.str (S r1) tr] : Array Value).isEmpty = true by assumption) (by simp)
        · refine ksp_setItem (x := D) (C := 282) (od := some dict0) (ox := pob 282 Dd es ep) (f := 78) (by assumption) X' ⟨(N8 (D, pob 282 Dd es ep) (by simp)).1, rfl, rfl, (N8 (Dd, dict0) (by simp)).1⟩ (by k_is) (by k_is) (by k_is) ?_
          refine setitem_w (by assumption) X' N13 T' (by show dp + 1 + 20 < _; omega) (Dd := Dd) (oDd := dict0) (by simp) (.head hne13) he hkk hkz (by omega) ?_
          intro h14 tk14 es14 ep14 F14 N14 he14
          replace N14 : News g' L' h14 ((D, pob 282 Dd es14 ep14) :: (216, oT2) :: (l3, listOf vs3.toArray n3) :: (VL, listOf [Value.str (S r1) tr].toArray nws) :: (I, oI) :: (l, listOf vs.toArray n) :: (Dd, dict0) :: (ls ++ news)) := N14
          dsimp only
          k_steps
          refine ⟨⟨_, _, _, _, _, rfl, F14, ?_, ?_, hi0, hG2, hb1, hb2, hb3, es14, ep14, oT2, [] ++ ls, _, hT2, ?_, rfl, he14, ?_⟩⟩
          · intro p hp
            refine N14 p ?_
            simp only [List.mem_cons, List.mem_append, List.not_mem_nil, false_or, or_false] at hp ⊢
            rcases hp with h | h | h | h | h | h | h <;> simp [h]
          · intro p hp
            simp only [List.mem_cons, List.mem_append, List.not_mem_nil, false_or, or_false] at hp
            rcases hp with h | h | h | h | h | h
            · rw [h]; exact hI216.symm
            · rw [h]; exact hnI (l, listOf vs.toArray n) (by simp)
            · rw [h]; exact hID.symm
            · rw [h]; exact hnI (Dd, dict0) (by simp)
            · exact hnI p (by simp [h])
            · exact hnI p (by simp [h])
          · intro p hp
            exact hls p hp
          · rw [List.take_add_one, hku, List.map_append]
            exact UVals.snoc (show UVal _ (.one (S r1)) _ from ⟨_, rfl⟩) (huv.mono fun p hp => List.mem_append.mpr (.inr hp))
      | r1 :: r2 :: rest, .cons _ tr1 (.cons _ tr2 (vs := wr) hwr), hrs, hku =>
        have hwl : (Value.str (S r1) tr1 :: Value.str (S r2) tr2 :: wr).toArray.size ≤ 4000 := by
          have := strs_len hwr
          simp only [List.length_map] at this
          simp only [List.size_toArray, List.length_cons] at hrl ⊢
          omega
        k_steps
        · exact absurd (show (Value.str (S r1) tr1 :: Value.str (S r2) tr2 :: wr).toArray.isEmpty = true by assumption) (by simp)
        · exact absurd (show (((Value.str (S r1) tr1 :: Value.str (S r2) tr2 :: wr).toArray.size : Nat) : Int) = 1 by assumption) (by simp; omega)
        · refine ksp_setItem (x := D) (C := 282) (od := some dict0) (ox := pob 282 Dd es ep) (f := 78) (by assumption) X' ⟨(N8 (D, pob 282 Dd es ep) (by simp)).1, rfl, rfl, (N8 (Dd, dict0) (by simp)).1⟩ (by k_is) (by k_is) (by k_is) ?_
          refine setitem_w (by assumption) X' N13 T' (by show dp + 1 + 20 < _; omega) (Dd := Dd) (oDd := dict0) (by simp) (.head hne13) he hkk hkz (by omega) ?_
          intro h14 tk14 es14 ep14 F14 N14 he14
          replace N14 : News g' L' h14 ((D, pob 282 Dd es14 ep14) :: (216, oT2) :: (l3, listOf vs3.toArray n3) :: (VL, listOf (Value.str (S r1) tr1 :: Value.str (S r2) tr2 :: wr).toArray nws) :: (I, oI) :: (l, listOf vs.toArray n) :: (Dd, dict0) :: (ls ++ news)) := N14
          dsimp only
          k_steps
          refine ⟨⟨_, _, _, _, _, rfl, F14, ?_, ?_, hi0, hG2, hb1, hb2, hb3, es14, ep14, oT2, [(VL, listOf (Value.str (S r1) tr1 :: Value.str (S r2) tr2 :: wr).toArray nws)] ++ ls, _, hT2, ?_, rfl, he14, ?_⟩⟩
          · intro p hp
            refine N14 p ?_
            simp only [List.mem_cons, List.mem_append, List.not_mem_nil, false_or, or_false] at hp ⊢
            rcases hp with h | h | h | h | h | (h | h) | h <;> simp [h]
          · intro p hp
            simp only [List.mem_cons, List.mem_append, List.not_mem_nil, false_or, or_false] at hp
            rcases hp with h | h | h | h | (h | h) | h
            · rw [h]; exact hI216.symm
            · rw [h]; exact hnI (l, listOf vs.toArray n) (by simp)
            · rw [h]; exact hID.symm
            · rw [h]; exact hnI (Dd, dict0) (by simp)
            · rw [h]; exact fun e => hVLn (I, oI) (by simp) e.symm
            · exact hnI p (by simp [h])
            · exact hnI p (by simp [h])
          · intro p hp
            rcases List.mem_append.mp hp with h | h
            · rw [List.mem_singleton.mp h]
              exact ⟨fun e => hVLn (D, pob 282 Dd es ep) (by simp) e.symm, fun e => hVLn (216, oT') (by simp) e.symm, fun q hq e => hVLn q (by
                simp only [List.mem_cons, List.mem_append] at hq ⊢
                rcases hq with h | h <;> simp [h]) e, _, _, rfl⟩
            · exact hls p h
          · rw [List.take_add_one, hku, List.map_append]
            exact UVals.snoc (show UVal _ (.many ((r1 :: r2 :: rest).map S)) _ from ⟨VL, _, nws, rfl, List.mem_append.mpr (.inl (.head _)), .cons _ tr1 (.cons _ tr2 hwr)⟩) (huv.mono fun p hp => List.mem_append.mpr (.inr hp))
    case turn1 =>
      rintro i2 v2 h8 tk8 gs2 m2 nw2 I2 oI2 htk8 hv2 ⟨hG2, hb1, hb2, hb3, hb4, hb5, hb6, ws, nws, oT2, hws, hT2, rfl⟩ F8 N8 hnI2
      obtain ⟨q2, tq2, hq2, rfl⟩ := strs_at hvs3 i2 v2 (by simpa using hv2)
      obtain ⟨p2, hp2, rfl⟩ : ∃ p2, (qs 44 (-1) val false [] [] 0)[i2]? = some p2 ∧ q2 = S p2 := by
        rw [List.getElem?_map] at hq2
        cases z : (qs 44 (-1) val false [] [] 0)[i2]? with
        | none => rw [z] at hq2; cases hq2
        | some p => rw [z] at hq2; exact ⟨p, rfl, (Option.some.inj hq2).symm⟩
      have hl2 : (S p2).length ≤ 1000 := by
        rcases qs_len val _ _ _ _ p2 (List.mem_of_getElem? hp2) with h | h
        · cases h
        · rw [S_len] at hvl ⊢; simp at h; omega
      obtain ⟨r, hr, hpv⟩ := hrs i2 p2 hp2
      have hwl : ws.toArray.size ≤ 2000 := by
        have := strs_len hws
        simp only [List.length_map, List.length_take] at this
        simp only [List.size_toArray]; omega
      have UU : ∀ (R : List (Addr × Obj)), (∀ p ∈ R, p.1 ≠ 216) → UpdF 216 oT2 ((216, oT2) :: R) (fun o => (216, o) :: R) := fun R h => .head h
      have h216 : ∀ p ∈ (l3, listOf vs3.toArray n3) :: (VL, listOf ws.toArray nws) :: (I, oI) :: (l, listOf vs.toArray n) :: (D, pob 282 Dd es ep) :: (Dd, dict0) :: (ls ++ news), p.1 ≠ 216 := by
        intro p hp
        simp only [List.mem_cons, List.mem_append] at hp
        rcases hp with h | h | h | h | h | h | h | h
        · rw [h]; exact Nat.ne_of_gt (hl3 (216, oT') (by simp))
        · rw [h]; exact fun e => hVLn (216, oT') (by simp) e.symm
        · rw [h]; exact hI216
        · rw [h]; exact hl216
        · rw [h]; exact hD216
        · rw [h]; exact hDd216
        · exact (hls p h).2.1
        · exact hn216 p h
      have N8' : News g' L' h8 ((216, oT2) :: (I2, oI2) :: (l3, listOf vs3.toArray n3) :: (VL, listOf ws.toArray nws) :: (I, oI) :: (l, listOf vs.toArray n) :: (D, pob 282 Dd es ep) :: (Dd, dict0) :: (ls ++ news)) := fun p hp => N8 p (by
        simp only [List.mem_cons] at hp ⊢
        rcases hp with h | h | h | h | h | h | h | h | h <;> simp [h])
      have hR216 : ∀ p ∈ (I2, oI2) :: (l3, listOf vs3.toArray n3) :: (VL, listOf ws.toArray nws) :: (I, oI) :: (l, listOf vs.toArray n) :: (D, pob 282 Dd es ep) :: (Dd, dict0) :: (ls ++ news), p.1 ≠ 216 := by
        intro p hp
        rcases List.mem_cons.mp hp with rfl | hp
        · exact fun e => hnI2 _ (.head _) e.symm
        · exact h216 p hp
      have hVn : ∀ oT9, ∀ p ∈ (216, oT9) :: (I2, oI2) :: (l3, listOf vs3.toArray n3) :: (I, oI) :: (l, listOf vs.toArray n) :: (D, pob 282 Dd es ep) :: (Dd, dict0) :: (ls ++ news), p.1 ≠ VL := by
        intro oT9 p hp
        simp only [List.mem_cons] at hp
        rcases hp with h | h | h | h
        · rw [h]; exact hVLn (216, oT') (by simp)
        · rw [h]; exact fun e => hnI2 (VL, listOf ws.toArray nws) (by simp) e.symm
        · rw [h]; exact hl3V
        · refine hVLn p ?_
          simp only [List.mem_cons]
          rcases h with h | h | h | h | h <;> simp [h]
      unfold PV qF at hpv
      k_steps
      any_goals
        rename Txt.startswith (S p2) (Str.ofString "\"") = true => hs
        rename Txt.endswith (S p2) (Str.ofString "\"") = true => he
        rw [hs, he] at hpv
        obtain ⟨z, hz, hrz, hno⟩ := hpv
        have hzl : (Txt.stripChars (S p2) (Str.ofString "\"")).length ≤ 1000 := by omega
        refine TEnd.mk ?_
        refine vpv_2 (by assumption) (by assumption) X' (by assumption) T' hG2 (.head hR216) hT2 hz hno (by rfl) hzl (by show dp + 1 + 20 < _; omega) (by show un + 3 + 400 < _; omega) ?_
        intro h9 tk9 gs9 oT9 hT9 hG9 F9 N9
        replace N9 : News g' L' h9 ((216, oT9) :: (I2, oI2) :: (l3, listOf vs3.toArray n3) :: (VL, listOf ws.toArray nws) :: (I, oI) :: (l, listOf vs.toArray n) :: (D, pob 282 Dd es ep) :: (Dd, dict0) :: (ls ++ news)) := N9
        dsimp only
        k_steps
        refine TEnd.mk ?_
        refine rfc_w (X'.keeps F9.keep) (T'.keeps F9.keep) (by show dp + 1 < _; omega) hz hzl ?_
        intro t10 h10 tk10 hk10
        have hrr : rs[i2]? = some (rf z) := hrz ▸ hr
        generalize rf z = rr at hrr ⊢
      any_goals
        first
          | rename Txt.endswith (S p2) (Str.ofString "\"") = false => hq0
          | rename Txt.startswith (S p2) (Str.ofString "\"") = false => hq0
        have hfl : (Txt.startswith (S p2) (Str.ofString "\"") && Txt.endswith (S p2) (Str.ofString "\"")) = false := by
          first
            | (rw [show Txt.endswith (S p2) (Str.ofString "\"") = false by assumption, Bool.and_false])
            | (rw [show Txt.startswith (S p2) (Str.ofString "\"") = false by assumption, Bool.false_and])
        rw [hfl] at hpv
        obtain ⟨hno, hrz, hup⟩ := hpv
        refine TEnd.mk ?_
        refine vpv_2 (x := p2) (by assumption) (by assumption) X' (by assumption) T' hG2 (.head hR216) hT2 rfl hno (by rfl) hl2 (by show dp + 1 + 20 < _; omega) (by show un + 3 + 400 < _; omega) ?_
        intro h9 tk9 gs9 oT9 hT9 hG9 F9 N9
        replace N9 : News g' L' h9 ((216, oT9) :: (I2, oI2) :: (l3, listOf vs3.toArray n3) :: (VL, listOf ws.toArray nws) :: (I, oI) :: (l, listOf vs.toArray n) :: (D, pob 282 Dd es ep) :: (Dd, dict0) :: (ls ++ news)) := N9
        dsimp only
        k_steps
      any_goals
        rename b = true => hb1'
        rw [hb1', if_pos rfl] at hrz
        refine TEnd.mk ?_
        refine rfc_w (x := upF p2) (X'.keeps F9.keep) (T'.keeps F9.keep) (by show dp + 1 < _; omega) rfl (by rw [show (Txt.upper (S p2)) = S (upF p2) from rfl, S_len]; exact hup) ?_
        intro t10 h10 tk10 hk10
        have hrr : rs[i2]? = some (rf (upF p2)) := hrz ▸ hr
        generalize rf (upF p2) = rr at hrr ⊢
      any_goals
        rename b = false => hb1'
        rw [hb1', if_neg (by decide)] at hrz
        refine TEnd.mk ?_
        refine rfc_w (x := p2) (X'.keeps F9.keep) (T'.keeps F9.keep) (by show dp + 1 < _; omega) rfl hl2 ?_
        intro t10 h10 tk10 hk10
        have hrr : rs[i2]? = some (rf p2) := hrz ▸ hr
        generalize rf p2 = rr at hrr ⊢
      all_goals
        have F10 := F9.keeps hk10
        have N10 := N9.grown hk10
        clear F9 N9
        dsimp only
        k_steps
        refine TEnd.mk ?_
        have N11 : News g' L' h10 ((VL, listOf ws.toArray nws) :: (216, oT9) :: (I2, oI2) :: (l3, listOf vs3.toArray n3) :: (I, oI) :: (l, listOf vs.toArray n) :: (D, pob 282 Dd es ep) :: (Dd, dict0) :: (ls ++ news)) := fun p hp => N10 p (by
          simp only [List.mem_cons] at hp ⊢
          rcases hp with h | h | h | h | h | h | h | h | h <;> simp [h])
        refine append_l F10 N11 (.head (hVn oT9)) (by omega) ?_
        intro h12 F12 N12
        dsimp only
        k_steps
        refine ⟨⟨_, _, _, _, _, rfl, F12, ?_, ?_, hG9, hb1, hb2, hb3, hb4, hb5, hb6, ws ++ [.str (S rr) t10], nws + 1, oT9, ?_, hT9, rfl⟩⟩
        rotate_left 2
        · rw [List.take_add_one, hrr, List.map_append]
          exact strs_snoc1 hws
        · intro p hp
          rw [List.push_toArray] at N12
          refine N12 p ?_
          simp only [List.mem_cons] at hp ⊢
          rcases hp with h | h | h | h | h | h | h | h | h <;> simp [h]
        · intro p hp
          simp only [List.mem_cons] at hp
          rcases hp with h | h | h | h
          · rw [h]; exact hnI2 (216, oT2) (by simp)
          · rw [h]; exact hnI2 (l3, listOf vs3.toArray n3) (by simp)
          · rw [h]; exact hnI2 (VL, listOf ws.toArray nws) (by simp)
          · refine hnI2 p ?_
            simp only [List.mem_cons]
            rcases h with h | h | h | h | h <;> simp [h]
end Fical
end Mine
end
/-! part LawB -/
section
theorem Mine.startLawB : True := by
  w_top off
  exact trivial
local macro_rules | `(tactic| walk_at "pad0") => `(tactic| skip)
local macro_rules | `(tactic| walk_at "pad1") => `(tactic| skip)
local macro_rules | `(tactic| walk_at "pad2") => `(tactic| skip)
local macro_rules | `(tactic| walk_at "pad3") => `(tactic| skip)
local macro_rules | `(tactic| walk_at "pad4") => `(tactic| skip)
local macro_rules | `(tactic| walk_at "pad5") => `(tactic| skip)
local macro_rules | `(tactic| walk_at "pad6") => `(tactic| skip)
local macro_rules | `(tactic| walk_at "pad7") => `(tactic| skip)
local macro_rules | `(tactic| walk_at "pad8") => `(tactic| skip)
local macro_rules | `(tactic| walk_at "pad9") => `(tactic| skip)
local macro_rules | `(tactic| walk_at "pad10") => `(tactic| skip)
local macro_rules | `(tactic| walk_at "pad11") => `(tactic| skip)
local macro_rules | `(tactic| walk_at "pad12") => `(tactic| skip)
local macro_rules | `(tactic| walk_at "pad13") => `(tactic| skip)
open PySem PySem.W PyProof.Rows PySem.Calls PySem.Spec
set_option Elab.async false
set_option maxRecDepth 100000
namespace Mine
theorem marks_lt : ∀ c ∈ marks, c < 0x110000 := by decide
theorem join_comma (ps : List (List Nat)) : Txt.join (Str.ofString ",") (ps.map S) = S (joinC ps) := by
  have : Txt.join (Str.ofString ",") (ps.map S) = Str.join (Str.ofString ",") (ps.map S) := StrLaws.glued_eq_join _ _
  rw [this]
  clear this
  have hc : Str.ofString "," = S [44] := by decide +kernel
  induction ps with
  | nil => rfl
  | cons a r ih =>
    cases r with
    | nil => rfl
    | cons b r =>
      show S a ++ Str.ofString "," ++ Str.join (Str.ofString ",") ((b :: r).map S) = _
      rw [ih, hc, S_app, S_app]
      simp [joinC]
theorem upper_ne : ¬ (Txt.upper (S (keyAt 1)) = Txt.upper (S (keyAt 0))) := by decide +kernel
theorem out_app {nm : List Nat} {bl : Int} {sg : Nat} {ps : List PD} {pd : PD} {ky : List Nat} {x1 x2 : Str} (hk : pd.key = ky) (h1 : x1 = S (if pd.b1 then [sg] else [])) (h2 : x2 = S (if pd.b2 then [sg] else [])) :
    S (outA nm bl sg ps) ++ Str.ofString ";" ++ x1 ++ S ky ++ x2 ++ Str.ofString "=" ++ S (joinC (List.zipWith wrP pd.qs pd.ts)) = S (outA nm bl sg (ps ++ [pd])) := by
  have h59 : Str.ofString ";" = S [59] := by decide +kernel
  have h61 : Str.ofString "=" = S [61] := by decide +kernel
  subst hk
  rw [h1, h2, h59, h61, S_app, S_app, S_app, S_app, S_app, S_app]
  congr 1
  simp [outA, parT, List.append_assoc]
theorem joinC_len : ∀ {l : List (List Nat)}, (∀ x ∈ l, x.length ≤ 10) → (joinC l).length ≤ 11 * l.length
  | [], _ => by simp [joinC]
  | [x], h => by have := h x (.head _); simp [joinC]; omega
  | x :: y :: r, h => by
    have h1 := h x (.head _)
    have h2 := joinC_len (l := y :: r) fun z hz => h z (.tail _ hz)
    simp only [joinC, List.length_append, List.length_cons] at h2 ⊢
    omega
theorem key_len {bl : Int} {i : Nat} {p : PD} (h : PDok bl i p) : p.key.length ≤ 4 := by
  rw [h.key]; unfold keyAt; split <;> decide
theorem parT_len {bl : Int} {i sg : Nat} {p : PD} (h : PDok bl i p) : (parT sg p).length ≤ 30 := by
  have h1 := joinC_len (wr_len h.short (qs := p.qs))
  have h2 := key_len h
  have h3 := h.two
  rw [List.length_zipWith] at h1
  have h4 : (if p.b1 then [sg] else []).length ≤ 1 := by split <;> simp
  have h5 : (if p.b2 then [sg] else []).length ≤ 1 := by split <;> simp
  simp only [parT, List.length_cons, List.length_append]
  omega
theorem parts_len {bl : Int} {sg : Nat} : ∀ {ps : List PD} {k : Nat}, (∀ (i : Nat) (p : PD), ps[i]? = some p → PDok bl (k + i) p) → ((ps.map (parT sg)).flatten).length ≤ 30 * ps.length
  | [], _, _ => by simp
  | p :: r, k, h => by
    have h1 := parT_len (sg := sg) (h 0 p rfl)
    have h2 := parts_len (ps := r) (k := k + 1) (sg := sg) fun i q hq => by
      have := h (i + 1) q (by simpa using hq)
      rwa [show k + (i + 1) = k + 1 + i by omega] at this
    simp only [List.map_cons, List.flatten_cons, List.length_append, List.length_cons]
    omega
theorem out_len {nm : List Nat} {bl : Int} {sg : Nat} {ps : List PD} (hn : nm ∈ [nmA, nmB, nmC]) (h : ∀ (i : Nat) (p : PD), ps[i]? = some p → PDok bl i p) : (outA nm bl sg ps).length ≤ 10 + 30 * ps.length := by
  have h1 := parts_len (k := 0) (sg := sg) (ps := ps) fun i p hi => by rw [Nat.zero_add]; exact h i p hi
  have h2 : nm.length ≤ 9 := by
    simp only [List.mem_cons, List.not_mem_nil, or_false] at hn
    rcases hn with rfl | rfl | rfl <;> decide
  have h3 : (if bl = 0 then [sg] else []).length ≤ 1 := by split <;> simp
  simp only [outA, List.length_append]
  omega
theorem codes_of_menu : ∀ {zs : List Str} {ms : List Nat}, (∀ z ∈ zs, z ∈ ms.map fun c => S [c]) → ∃ t : List Nat, zs = t.map (fun c => S [c]) ∧ ∀ c ∈ t, c ∈ ms
  | [], _, _ => ⟨[], rfl, fun _ h => nomatch h⟩
  | z :: r, ms, h => by
    obtain ⟨t, e1, e2⟩ := codes_of_menu (zs := r) (ms := ms) fun y hy => h y (.tail _ hy)
    obtain ⟨c, hc, rfl⟩ := List.mem_map.mp (h z (.head _))
    refine ⟨c :: t, by rw [e1]; rfl, fun d hd => ?_⟩
    rcases List.mem_cons.mp hd with rfl | hd
    · exact hc
    · exact e2 d hd
section LawB
local macro_rules | `(tactic| walk_at "subscriptTail") => `(tactic| ((with_reducible show wpAny _ _ (subscriptTail _ _ (Value.ref _) (Value.int _ _)) _ _ _); refine TEnd.out ?_))
local macro_rules | `(tactic| walk_at "CompSrc") => `(tactic| refine TEnd.out ?_)
local macro_rules | `(tactic| walk_at "eval ListComp") => `(tactic| refine TEnd.out ?_)
local macro_rules | `(tactic| k_room) => `(tactic| ktr_room)
local macro_rules | `(tactic| k_units) => `(tactic| ktr_units)
local macro_rules | `(tactic| k_all) => `(tactic| assumption)
local macro_rules | `(tactic| walk_at "eval Name") => `(tactic| (k_here; k_dflt (refine' nameX_L ?F ?v ?_ ?a ?b; (case a => rfl); (case b => rfl); (case F => k_asm); (case v => first | exact rfl | assumption); k_whole)))
local macro_rules | `(tactic| walk_at "call ref") => `(tactic| refine TEnd.out ?_)
set_option pp.deepTerms false
set_option pp.maxSteps 2000
set_option maxHeartbeats 4000000 in
theorem law_b {w : World} {mean : ExcName → Option Value} {mg mb : Str → Option Value} {h₀ : Heap} {L f : Addr} {cd : Value} {s : Shared}
    {Q : Flow → Shared → Prop} {E : Value → Shared → Prop} {oA oB : Obj} {b : Bool} {nm : List Nat} {bl : Int} {sg : Nat} {m : Str → Option Value} {nw : List (Addr × Obj)}
    (B : Below callerA h₀ [] h₀) (X : (K0 w.params).In h₀) (T : Top hd.view_39 loos mean mg mb h₀) (F : Fr h₀ L s.heap m) (N : News h₀ L s.heap nw) (p5 : P5 w L oA oB b nm bl sg [] m nw)
    (hk : ∀ ps h6 tk6 m6 nw6, ps.length ≤ 2 → Fr h₀ L h6 m6 → News h₀ L h6 nw6 → P5 w L oA oB b nm bl sg ps m6 nw6 → LawAt w 6 L f cd Q E { s with heap := h6, toks := tk6 }) :
    LawAt w 5 L f cd Q E s := by
  refine ⟨?_⟩
  revert X; k_fill; intro X
  show wpAny _ (Around.deeper _ (envOfC _ ⟨_, _, _, _, _⟩ _ _ _)) (execs (Stmt.For _ _ _ _ _ :: _) (envOfC _ ⟨_, _, _, _, _⟩ _ _ _)) _ _ _
  obtain ⟨st, sc, ws, us, n2, o, oc, D, od, ls, kvs, hdu, rfl, hS, hIw, hul, doc, hne, hst, hod, huv, hDs, hDn, hls, hll⟩ := p5.led
  have hUst : ∀ (pre ls' : List (Addr × Obj)) o', (∀ p ∈ pre, p.1 ≠ st) → (∀ p ∈ ls', p.1 ≠ st) → UpdF st o' (pre ++ LedA st o' sc ws n2 L oA oB oc ls') (fun x => pre ++ LedA st x sc ws n2 L oA oB oc ls') := fun pre ls' o' h h' => updF_of (fun _ => rfl) h (fun p hp => by
    simp only [List.mem_cons] at hp
    rcases hp with e | e | e | e | e
    · exact hst p (by simp [e])
    · exact hst p (by simp [e])
    · exact hst p (by simp [e])
    · exact hst p (by simp [e])
    · exact h' p e)
  have hDst : @Ne Nat D st := fun e => hDn (st, o) (by simp) e.symm
  refine wpAny_execs_cons ?_
  refine wpAny_For (wpAny_mono (Q := fun v s' => TEnd (∃ (D2 : Addr) (vs : List Value) (n : Nat) (o' : Obj) (h' : Heap) (tk' : Nat), v = .ref D2 ∧ s' = { s with heap := h', toks := tk' } ∧ Fr h₀ L h' m ∧ News h₀ L h' ((D2, listOf vs.toArray n) :: (D, od) :: LedA st o' sc ws n2 L oA oB oc ls) ∧ (∀ p ∈ (D, od) :: LedA st o' sc ws n2 L oA oB oc ls, p.1 ≠ D2) ∧ StObj sc o' ∧ vs.length ≤ 2 ∧ StrsAre vs ([S kyA, S kyB].take vs.length))) ?_ ?_ fun _ _ e => e) (fun _ => rfl)
  · k_steps
    rename_i l1 h1 F1 N1 lt1
    refine TEnd.mk ?_
    have hl1 : ∀ p ∈ (l1, listOf #[Value.str (Str.ofString "X-P") s.toks, Value.str (Str.ofString "role") (s.toks + 1)] 0) :: (D, od) :: [], p.1 ≠ st := by
      intro p hp
      simp only [List.mem_cons, List.not_mem_nil, or_false] at hp
      rcases hp with e | e <;> rw [e]
      · exact Nat.ne_of_gt lt1.2.1
      · exact hDst
    refine next_c B F1 X N1 T (hUst _ ls o hl1 hls) hS (.tail _ (.tail _ (.tail _ (.head _)))) hIw hul hne (by decide) (by decide) (by decide) (by decide) ?_
    intro r t1 o1 h2 tk2 hr0 hr3 hS1 F2 N2
    dsimp only [List.cons_append, List.nil_append] at N2 ⊢
    have hr : r = 0 ∨ r = 1 ∨ r = 2 := by omega
    have hA : Str.ofString "X-P" = S kyA := by decide +kernel
    have hB : Str.ofString "role" = S kyB := by decide +kernel
    rcases hr with rfl | rfl | rfl
    all_goals
      k_steps
      rename_i D2 h3 F3 N3 lt3
      have hlt : ∀ p ∈ (D, od) :: LedA st o1 sc ws n2 L oA oB oc ls, p.1 ≠ D2 := by
        intro p hp
        simp only [List.mem_cons] at hp
        rcases hp with e | e | e | e | e | e | e
        · rw [e]; exact Nat.ne_of_lt lt3.2.1
        · rw [e]; exact Nat.ne_of_lt lt3.2.2.1
        · rw [e]; exact Nat.ne_of_lt lt3.2.2.2.1
        · rw [e]; exact Nat.ne_of_lt lt3.2.2.2.2.1
        · rw [e]; exact Nat.ne_of_lt lt3.2.2.2.2.2.1
        · rw [e]; exact Nat.ne_of_lt lt3.2.2.2.2.2.2.1
        · exact Nat.ne_of_lt (allLt_mem lt3.2.2.2.2.2.2.2 p e)
      have N4 : News h₀ L h3 ((D2, _) :: (D, od) :: LedA st o1 sc ws n2 L oA oB oc ls) := fun p hp => N3 p (by
        rcases List.mem_cons.mp hp with e | e
        · rw [e]; exact .head _
        · exact .tail _ (.tail _ e))
    · exact ⟨⟨D2, [], 0, o1, h3, _, rfl, rfl, F3, N4, hlt, hS1, by decide, .nil⟩⟩
    · exact ⟨⟨D2, [_], 0, o1, h3, _, rfl, rfl, F3, N4, hlt, hS1, by simp, by rw [hA]; exact .cons _ _ .nil⟩⟩
    · exact ⟨⟨D2, [_, _], 0, o1, h3, _, rfl, rfl, F3, N4, hlt, hS1, by simp, by rw [hA, hB]; exact .cons _ _ (.cons _ _ .nil)⟩⟩
  rintro v s' ⟨⟨D2, vs, n, o', h2, tk2, rfl, rfl, F2, N2, hD2, hS2, hvl, hvs⟩⟩
  have p5' : P5 w L oA oB b nm bl sg [] m ((D, od) :: LedA st o' sc ws n2 L oA oB oc ls) := { p5 with led := ⟨st, sc, ws, us, n2, o', oc, D, od, ls, kvs, hdu, rfl, hS2, hIw, hul, doc, hne, hst, hod, huv, hDs, ?_, hls, hll⟩ }
  rotate_left
  · intro p hp
    simp only [List.mem_cons] at hp
    rcases hp with e | e
    · rw [e]; exact Ne.symm hDst
    · exact hDn p (by simp [e])
  clear p5 hod huv hdu N hS hDs hDn
  refine list_loop (D := D2) (vs := vs.toArray) (nc := n) rfl rfl rfl rfl
    (fun (i : Nat) (gs : Array GenState) (m' : Str → Option Value) (nw : List (Addr × Obj)) => gs = s.gens ∧ ∃ ps nw', ps.length = i ∧ P5 w L oA oB b nm bl sg ps m' nw' ∧ nw = (D2, listOf vs.toArray n) :: nw' ∧ (∀ p ∈ nw', p.1 ≠ D2))
    ?hJm F2 N2 ⟨rfl, [], _, rfl, p5', rfl, hD2⟩ ?turn ?done
  case hJm =>
    rintro i gs m' nw ⟨_, ps, nw', _, _, rfl, _⟩
    exact .head _
  case done =>
    rintro h tk gs m' nw htk ⟨rfl, ps, nw', hpl, hp5, rfl, _⟩ F3 N3
    obtain ⟨h99⟩ := hk ps h tk m' nw' (by simp at hpl; omega) F3 (fun p hp => N3 p (.tail _ hp)) hp5
    clear hk
    assumption
  case turn =>
    rintro i v h tk gs m' nw I oI htk hv ⟨rfl, ps, nw', hpl, hp5, rfl, hD2'⟩ F3 N3 hnI
    obtain ⟨st, sc, ws, us, n2, o, oc, D, od, ls, kvs, hdu, rfl, hS, hIw, hul, doc, hne, hst, hod, huv, hDs, hDn, hls, hll⟩ := hp5.led
    obtain ⟨tnm, hnm1⟩ := hp5.name
    obtain ⟨tbl, hbl⟩ := hp5.blank
    obtain ⟨tsg, hsg1⟩ := hp5.sign
    obtain ⟨tpl, hpl1⟩ := hp5.places
    obtain ⟨tou, hou⟩ := hp5.out
    have hb := hp5.strict
    have hi2 : i < 2 := by
      have := (Array.getElem?_eq_some_iff.mp hv).1
      simp at this; omega
    obtain ⟨tk0, rfl⟩ : ∃ t, v = .str (S (keyAt i)) t := by
      obtain ⟨x, tx, hx, rfl⟩ := strs_at hvs i v (by simpa using hv)
      refine ⟨tx, ?_⟩
      rw [List.getElem?_take] at hx
      split at hx
      · match i, hi2 with
        | 0, _ =>
          have e : S kyA = x := by simpa using hx
          rw [← e]; rfl
        | 1, _ =>
          have e : S kyB = x := by simpa using hx
          rw [← e]; rfl
      · cases hx
    replace F3 : Fr h₀ L h _ := F3
    replace N3 : News h₀ L h _ := N3
    refine execs_cut (h₀ := h₀) (L := L) (fun m2 nw => ∃ (pd : PD) (o2 : Obj) (Rd : Addr) (rs : List Value) (n9 : Nat) (tw : Tok) (vr : Value), StObj sc o2 ∧ m2 = (fun y => if y = Str.ofString "read" then some vr else if y = Str.ofString "written" then some (.str (S (joinC (List.zipWith wrP pd.qs pd.ts))) tw) else if y = Str.ofString "key" then some (.str (S (keyAt i)) tk0) else m' y) ∧
      PDok bl i pd ∧ UVal [(Rd, listOf rs.toArray n9)] (uvL (List.zipWith (rdP b) pd.qs pd.ts)) vr ∧ nw = (I, oI) :: (D2, listOf vs.toArray n) :: (D, od) :: LedA st o2 sc ws n2 L oA oB oc ((Rd, listOf rs.toArray n9) :: ls) ∧ (∀ p ∈ (I, oI) :: (D2, listOf vs.toArray n) :: (D, od) :: LedA st o2 sc ws n2 L oA oB oc ls, p.1 < Rd)) ?_ ?_
    · k_steps
      refine TEnd.mk ?_
      refine LCg.ListComp_U (F₀ := F3) (by with_unfolding_all rfl) (by decide) (by rfl) (by decide) (by rfl) ?_
      k_steps
      refine TEnd.mk ?_
      have hIst : @Ne Nat I st := fun e => hnI (st, o) (by simp) e.symm
      have hD2st : @Ne Nat D2 st := fun e => hD2' (st, o) (by simp) e.symm
      have hDst : @Ne Nat D st := fun e => hDn (st, o) (by simp) e.symm
      have hpre : ∀ p ∈ (I, oI) :: (D2, listOf vs.toArray n) :: (D, od) :: [], p.1 ≠ st := by
        intro p hp
        simp only [List.mem_cons, List.not_mem_nil, or_false] at hp
        rcases hp with e | e | e <;> rw [e] <;> assumption
      have hUst : ∀ (pre ls' : List (Addr × Obj)) o', (∀ p ∈ pre, p.1 ≠ st) → (∀ p ∈ ls', p.1 ≠ st) → UpdF st o' (pre ++ LedA st o' sc ws n2 L oA oB oc ls') (fun x => pre ++ LedA st x sc ws n2 L oA oB oc ls') := fun pre ls' o' h h' => updF_of (fun _ => rfl) h (fun p hp => by
        simp only [List.mem_cons] at hp
        rcases hp with e | e | e | e | e
        · exact hst p (by simp [e])
        · exact hst p (by simp [e])
        · exact hst p (by simp [e])
        · exact hst p (by simp [e])
        · exact h' p e)
      refine next_c B F3 X N3 T (hUst _ ls o hpre hls) hS (.tail _ (.tail _ (.tail _ (.tail _ (.head _))))) hIw hul hne (by decide) (by decide) (by decide) (by decide) ?_
      intro r t1 o1 h4 tk4 hr0 hr2 hS1 F4 N4
      dsimp only [List.cons_append, List.nil_append] at N4 ⊢
      k_steps
      rename_i h5 tk5 ta tb tc hR F5 N5 k5
      refine TEnd.mk ?_
      refine LCg.CompSrc.range rfl F5 N5 hR (small_one (by omega) (by omega) (by omega) (by omega)) (rangeSize_nat _ _) (by rw [PySem.sizeLine_eq]; omega) fun gg => ?_
      refine rest_inv (n := ((1 + r) - 0).toNat) (fun i2 ys nw => ∃ oc2 tl ts, nw = (I, oI) :: (D2, listOf vs.toArray n) :: (D, od) :: LedA st oc2 sc ws n2 L oA oB oc (tl ++ ls) ∧ StObj sc oc2 ∧ ts.length = i2 ∧ ys.length = i2 ∧ TxsAt tl ys ts ∧ (∀ t ∈ ts, t.length ≤ 4 ∧ ∀ c ∈ t, c ∈ marks) ∧ (∀ p ∈ tl, p.1 ≠ st)) ?_ ?_ _ 0 [] _ (Nat.zero_add _) ⟨o1, [], [], rfl, hS1, rfl, rfl, (fun i v h => by simp at h), (fun _ h => nomatch h), (fun _ h => nomatch h)⟩
      · rintro i2 ys nw v2 I2 oI2 C2 oC2 D3 m₂ h6 tk6 E' hi2 ⟨oc2, tl, ts, rfl, hSc, htl, hyl, htx, htm, htn⟩ hv2 hC2 hx2 F6 N6 off ne
        have off' := off.mem
        k_steps
        refine TEnd.mk ?_
        obtain ⟨menu, hmenu, hmx⟩ := menuM X
        have hpre6 : ∀ p ∈ (I2, oI2) :: (C2, oC2) :: (D3, LCg.lst ys) :: (I, oI) :: (D2, listOf vs.toArray n) :: (D, od) :: [], p.1 ≠ st := by
          intro p hp
          have h3 := off' (st, oc2) (by simp)
          simp only [List.mem_cons, List.not_mem_nil, or_false] at hp
          rcases hp with e | e | e | e | e | e <;> rw [e]
          · exact Ne.symm h3.1
          · exact Ne.symm h3.2.1
          · exact Ne.symm h3.2.2
          · exact hIst
          · exact hD2st
          · exact hDst
        refine ltext_w B F6 X N6 T (hUst _ (tl ++ ls) oc2 hpre6 ?htn6) hSc (.tail _ (.tail _ (.tail _ (.tail _ (.tail _ (.tail _ (.tail _ (.head _)))))))) hIw hul hne hmenu hmx (by decide) (by decide) (by decide) (by decide) ?_
        case htn6 =>
          intro p hp
          rcases List.mem_append.mp hp with e | e
          · exact htn p e
          · exact hls p e
        intro l7 n7 ys7 zs7 o7 h7 tk7 hz1 hz2 hz3 hS7 F7 N7 hne7
        obtain ⟨t7, rfl, ht7⟩ := codes_of_menu hz3
        dsimp only [List.cons_append, List.nil_append] at N7 ⊢
        have hl7 : ∀ p ∈ (I, oI) :: (D2, listOf vs.toArray n) :: (D, od) :: LedA st o7 sc ws n2 L oA oB oc (tl ++ ls), p.1 ≠ l7 := fun p hp => hne7 p (.tail _ (.tail _ (.tail _ hp)))
        refine LCg.CompEnd.intro F7 N7 ((I, oI) :: (D2, listOf vs.toArray n) :: (D, od) :: LedA st o7 sc ws n2 L oA oB oc (((l7, LCg.lst ys7) :: tl) ++ ls)) ?_ ?_ True.intro ⟨o7, (l7, LCg.lst ys7) :: tl, ts ++ [t7], rfl, hS7, by simp [htl], by simp [hyl], ?_, ?_, ?_⟩
        · intro p hp
          simp only [List.mem_cons, List.cons_append] at hp ⊢
          rcases hp with e | e | e | e | e | e | e | e | e | e | e | e | e <;> simp [e]
        · refine LCg.Off3.of fun p hp => ?_
          simp only [List.mem_cons, List.cons_append] at hp
          rcases hp with e | e | e | e | e | e | e | e | e | e
          · exact off' p (by simp [e])
          · exact off' p (by simp [e])
          · exact off' p (by simp [e])
          · exact (by rw [e]; exact off' (st, oc2) (by simp))
          · exact off' p (by simp [e])
          · exact off' p (by simp [e])
          · exact off' p (by simp [e])
          · exact off' p (by simp [e])
          · rw [e]
            exact ⟨fun z => hne7 (I2, oI2) (.head _) z.symm, fun z => hne7 (C2, oC2) (.tail _ (.head _)) z.symm, fun z => hne7 (D3, LCg.lst ys) (.tail _ (.tail _ (.head _))) z.symm⟩
          · exact off' p (by simp [e])
        · intro j v hv
          rcases Nat.lt_or_ge j ys.length with hj | hj
          · rw [List.getElem?_append_left hj] at hv
            obtain ⟨li, ysj, tj, e1, e2, e3, e4⟩ := htx j v hv
            refine ⟨li, ysj, tj, e1, .tail _ e2, ?_, e4⟩
            rw [List.getElem?_append_left (by omega)]
            exact e3
          · have hj2 : j = ys.length := by
              have := (List.getElem?_eq_some_iff.mp hv).1
              simp at this; omega
            subst hj2
            rw [List.getElem?_append_right (Nat.le_refl _), Nat.sub_self] at hv
            simp at hv
            refine ⟨l7, ys7, t7, hv.symm, .head _, ?_, hz1⟩
            rw [List.getElem?_append_right (by omega), htl, hyl, Nat.sub_self]
            rfl
        · intro t ht
          rcases List.mem_append.mp ht with e | e
          · exact htm t e
          · rw [List.mem_singleton.mp e]
            exact ⟨by simpa using hz2, ht7⟩
        · intro p hp
          rcases List.mem_cons.mp hp with e | e
          · rw [e]; exact fun z => hl7 (st, o7) (by simp) z.symm
          · exact htn p e
      · rintro ys nw ⟨oc2, tl, ts, rfl, hSc, htl, hyl, htx, htm, htn⟩
        intro D3 h6 tk6 F6 N6 off6
        have off6' := off1_mem off6
        k_steps
        refine TEnd.mk ?_
        have hpre7 : ∀ p ∈ (D3, LCg.lst ys) :: (I, oI) :: (D2, listOf vs.toArray n) :: (D, od) :: [], p.1 ≠ st := by
          intro p hp
          simp only [List.mem_cons, List.not_mem_nil, or_false] at hp
          rcases hp with e | e | e | e <;> rw [e]
          · exact Ne.symm (off6' (st, oc2) (by simp))
          · exact hIst
          · exact hD2st
          · exact hDst
        refine lval_w (ts := ts) (lvs := ys) B F6 X N6 T (hUst _ (tl ++ ls) oc2 hpre7 ?htn7) hSc (.tail _ (.tail _ (.tail _ (.tail _ (.tail _ (.head _)))))) hIw hul hne (.head _) (hpre7 _ (.head _)) ?htx7 (by omega) (by omega) (fun t ht => (htm t ht).1) (fun t ht c hc => marks_lt c ((htm t ht).2 c hc)) (by decide) (by decide) ?_
        case htn7 =>
          intro p hp
          rcases List.mem_append.mp hp with e | e
          · exact htn p e
          · exact hls p e
        case htx7 =>
          intro j v hv
          obtain ⟨li, ysj, tj, e1, e2, e3, e4⟩ := htx j v hv
          exact ⟨li, ysj, tj, e1, by simp [e2], e3, e4⟩
        intro Tt Rd qs tw v rs n9 o9 h7 tk7 hql hqf hS9 F7 N7 hRd hv9
        dsimp only [List.cons_append, List.nil_append] at N7 ⊢
        rw [join_comma] at N7
        k_steps
        have F9 := (by assumption : Fr h₀ L _ (fun y => if y = Str.ofString "read" then _ else if y = Str.ofString "written" then _ else if y = Str.ofString "key" then _ else m' y))
        refine TEnd.mk ⟨trivial, _, _, _, _, rfl, F9, fun p hp => (by assumption : News h₀ L _ ((Tt, _) :: _)) p ?_, ⟨keyAt i, decide (bl = 1 + 2 * (i : Int)), decide (bl = 2 + 2 * (i : Int)), qs, ts⟩, o9, Rd, rs, n9, tw, v, hS9, rfl, ⟨rfl, rfl, rfl, hql, by show 1 ≤ ts.length; omega, by show ts.length ≤ 2; omega, fun t ht => (htm t ht).1, fun t ht => (htm t ht).2, hqf⟩, hv9, rfl, ?_⟩
        · simp only [List.mem_cons, List.mem_append] at hp ⊢
          rcases hp with e | e | e | e | e | e | e | e | e | e <;> simp [e]
        · intro p hp
          refine hRd p ?_
          simp only [List.mem_cons, List.mem_append, List.not_mem_nil, or_false] at hp ⊢
          rcases hp with e | e | e | e | e | e | e | e | e <;> simp [e]
    rintro h4 tk4 m4 nw4 F4 N4 ⟨pd, o4, Rd, rs, n9, tw, vr, hS4, rfl, hpd, hvr, rfl, hRd⟩
    clear F3 N3
    dsimp only
    have hkl : (S (keyAt i)).length ≤ 4 := by
      rw [S_len]; unfold keyAt; split <;> decide
    refine execs_cut (h₀ := h₀) (L := L) (fun m5 nw => m5 = (fun y => if y = Str.ofString "read" then some vr else if y = Str.ofString "written" then some (.str (S (joinC (List.zipWith wrP pd.qs pd.ts))) tw) else if y = Str.ofString "key" then some (.str (S (keyAt i)) tk0) else m' y) ∧
      ∃ od5, Obj.IsDictOf (PySem.strKind PySem.Challenge.rw_bl0007_01.row.prog w) od5 (kvs ++ [(Txt.upper (S (keyAt i)), vr)]) ∧ nw = (I, oI) :: (D2, listOf vs.toArray n) :: (D, od5) :: LedA st o4 sc ws n2 L oA oB oc ((Rd, listOf rs.toArray n9) :: ls)) ?_ ?_
    · k_steps
      have hID : @Ne Nat I D := fun e => hnI (D, od) (by simp) e.symm
      have hD2D : @Ne Nat D2 D := fun e => hD2' (D, od) (by simp) e.symm
      have hRD : @Ne Nat Rd D := Nat.ne_of_gt (hRd (D, od) (by simp))
      refine kda_set (k := Txt.upper (S (keyAt i))) F4 N4 (.tail hID (.tail hD2D (.head fun p hp => ?_))) hod (by simp [PySem.strKind, Value.isStrOf]) ?hsz ?_
      · simp only [List.mem_cons] at hp
        rcases hp with e | e | e | e | e | e | e
        · rw [e]; exact hDn (st, o) (by simp)
        · exact hDn p (by simp [e])
        · exact hDn p (by simp [e])
        · exact hDn p (by simp [e])
        · exact hDn p (by simp [e])
        · rw [e]; exact hRD
        · exact hDn p (by simp [e])
      case hsz =>
        have := congrArg List.length huv.keys
        simp at this
        rw [PySem.sizeLine_eq]; omega
      intro h5 od5 F5 N5 hod5
      have hnew : stored kvs (Txt.upper (S (keyAt i))) vr = kvs ++ [(Txt.upper (S (keyAt i)), vr)] := by
        unfold stored
        rw [if_neg]
        intro h
        obtain ⟨kv, hkv, e⟩ := List.any_eq_true.mp h
        have e := of_decide_eq_true e
        have hm : kv.1 ∈ kvs.map (·.1) := List.mem_map_of_mem hkv
        rw [huv.keys, List.map_map] at hm
        obtain ⟨p, hp, e2⟩ := List.mem_map.mp hm
        obtain ⟨j, hj, rfl⟩ := List.getElem_of_mem hp
        have hpk := (hp5.good j ps[j] (List.getElem?_eq_getElem hj)).key
        simp only [Function.comp, dueP] at e2
        rw [hpk, e] at e2
        have : j = 0 ∧ i = 1 := by omega
        rw [this.1, this.2] at e2
        exact upper_ne e2.symm
      rw [hnew] at hod5
      exact TEnd.mk ⟨rfl, _, _, _, _, rfl, F5, N5, rfl, od5, hod5, rfl⟩
    clear F4 N4
    rintro h5 tk5 m5 nw5 F5 N5 ⟨rfl, od5, hod5, rfl⟩
    dsimp only
    have hol : (S (outA nm bl sg ps)).length ≤ 200 := by
      rw [S_len]
      have := out_len (sg := sg) hp5.nmOk hp5.good
      omega
    have hwl : (S (joinC (List.zipWith wrP pd.qs pd.ts))).length ≤ 50 := by
      rw [S_len]
      have := joinC_len (wr_len hpd.short (qs := pd.qs))
      have h3 := hpd.two
      rw [List.length_zipWith] at this
      omega
    have hsl : (S [sg]).length ≤ 1 := by rw [S_len]; simp
    have h59 : Str.ofString ";" = S [59] := by decide +kernel
    have h61 : Str.ofString "=" = S [61] := by decide +kernel
    have h0 : Str.ofString "" = S [] := by decide +kernel
    refine execs_cut (h₀ := h₀) (L := L) (fun m6 nw => m6 (Str.ofString "strict") = some (.bool b) ∧ m6 (Str.ofString "name") = some (.str (S nm) tnm) ∧ m6 (Str.ofString "blank") = some (.int bl tbl) ∧ m6 (Str.ofString "sign") = some (.str (S [sg]) tsg) ∧ m6 (Str.ofString "due") = some (.ref D) ∧ m6 (Str.ofString "places") = some (.int (1 + 2 * (ps.length : Int)) tpl) ∧
      (∃ t, m6 (Str.ofString "out") = some (.str (S (outA nm bl sg (ps ++ [pd]))) t)) ∧ nw = (I, oI) :: (D2, listOf vs.toArray n) :: (D, od5) :: LedA st o4 sc ws n2 L oA oB oc ((Rd, listOf rs.toArray n9) :: ls)) ?_ ?_
    · k_steps
      all_goals
        have F9 := (by assumption : Fr h₀ L _ (fun y => if y = Str.ofString "out" then _ else if y = Str.ofString "read" then _ else if y = Str.ofString "written" then _ else if y = Str.ofString "key" then _ else m' y))
        first
          | (have e1 : (1 : Int) + 2 * (ps.length : Int) = bl := by assumption
             have hb1 : pd.b1 = true := by rw [hpd.b1]; exact decide_eq_true (by omega)
             have e2 : (1 : Int) + 2 * (ps.length : Int) + 1 = bl := by assumption
             exfalso; omega)
          | (have e1 : (1 : Int) + 2 * (ps.length : Int) = bl := by assumption
             have hb1 : pd.b1 = true := by rw [hpd.b1]; exact decide_eq_true (by omega)
             have e2 : (1 : Int) + 2 * (ps.length : Int) + 1 ≠ bl := by assumption
             have hb2 : pd.b2 = false := by rw [hpd.b2]; exact decide_eq_false (by omega)
             exact TEnd.mk ⟨rfl, _, _, _, _, rfl, F9, by assumption, hb, hnm1, hbl, hsg1, hdu, hpl1, ⟨_, congrArg some (congrArg (fun x => Value.str x _) (out_app (x1 := S [sg]) (x2 := Str.ofString "") hpd.key (by rw [hb1]; rfl) (by rw [hb2, h0]; rfl)))⟩, rfl⟩)
          | (have e1 : (1 : Int) + 2 * (ps.length : Int) ≠ bl := by assumption
             have hb1 : pd.b1 = false := by rw [hpd.b1]; exact decide_eq_false (by omega)
             have e2 : (1 : Int) + 2 * (ps.length : Int) + 1 = bl := by assumption
             have hb2 : pd.b2 = true := by rw [hpd.b2]; exact decide_eq_true (by omega)
             exact TEnd.mk ⟨rfl, _, _, _, _, rfl, F9, by assumption, hb, hnm1, hbl, hsg1, hdu, hpl1, ⟨_, congrArg some (congrArg (fun x => Value.str x _) (out_app (x1 := Str.ofString "") (x2 := S [sg]) hpd.key (by rw [hb1, h0]; rfl) (by rw [hb2]; rfl)))⟩, rfl⟩)
          | (have e1 : (1 : Int) + 2 * (ps.length : Int) ≠ bl := by assumption
             have hb1 : pd.b1 = false := by rw [hpd.b1]; exact decide_eq_false (by omega)
             have e2 : (1 : Int) + 2 * (ps.length : Int) + 1 ≠ bl := by assumption
             have hb2 : pd.b2 = false := by rw [hpd.b2]; exact decide_eq_false (by omega)
             exact TEnd.mk ⟨rfl, _, _, _, _, rfl, F9, by assumption, hb, hnm1, hbl, hsg1, hdu, hpl1, ⟨_, congrArg some (congrArg (fun x => Value.str x _) (out_app (x1 := Str.ofString "") (x2 := Str.ofString "") hpd.key (by rw [hb1, h0]; rfl) (by rw [hb2, h0]; rfl)))⟩, rfl⟩)
    clear F5 N5
    rintro h6 tk6 m6 nw6 F6 N6 ⟨hb6, hnm6, hbl6, hsg6, hdu6, hpl6, ⟨to6, hou6⟩, rfl⟩
    dsimp only
    k_steps
    have F9 := (by assumption : Fr h₀ L _ (fun y => if y = Str.ofString "places" then _ else m6 y))
    have N9 := (by assumption : News h₀ L _ ((I, oI) :: (D2, _) :: (D, od5) :: _))
    have hpk : (dueP b pd) = (Txt.upper (S (keyAt i)), uvL (List.zipWith (rdP b) pd.qs pd.ts)) := by unfold dueP; rw [hpd.key]
    have hgood : ∀ (j : Nat) (p : PD), (ps ++ [pd])[j]? = some p → PDok bl j p := by
      intro j p hj
      rcases Nat.lt_or_ge j ps.length with h | h
      · rw [List.getElem?_append_left h] at hj
        exact hp5.good j p hj
      · have hj2 : j = ps.length := by
          have := (List.getElem?_eq_some_iff.mp hj).1
          simp at this; omega
        subst hj2
        rw [List.getElem?_append_right (Nat.le_refl _), Nat.sub_self] at hj
        simp at hj
        rw [← hj, hpl]; exact hpd
    have hmem : ∀ q ∈ LedA st o4 sc ws n2 L oA oB oc ((Rd, listOf rs.toArray n9) :: ls), q = (st, o4) ∨ q = (Rd, listOf rs.toArray n9) ∨ q ∈ LedA st o sc ws n2 L oA oB oc ls := by
      intro q hq
      simp only [List.mem_cons] at hq ⊢
      rcases hq with e | e | e | e | e | e | e <;> simp [e]
    have hRne : ∀ q ∈ (I, oI) :: (D2, listOf vs.toArray n) :: (D, od) :: LedA st o4 sc ws n2 L oA oB oc ls, q.1 ≠ Rd := fun q hq => Nat.ne_of_lt (hRd q hq)
    have hp5' : ∀ tk9 : Tok, P5 w L oA oB b nm bl sg (ps ++ [pd]) (fun y => if y = Str.ofString "places" then some (.int (1 + 2 * (ps.length : Int) + 2) tk9) else m6 y) ((D, od5) :: LedA st o4 sc ws n2 L oA oB oc ((Rd, listOf rs.toArray n9) :: ls)) :=
      fun tk9 => ⟨hb6, ⟨_, hnm6⟩, hp5.nmOk, hp5.bl0, hp5.bl8, ⟨_, hbl6⟩, hp5.sgOk, ⟨_, hsg6⟩, ⟨_, by simp only [List.length_append, List.length_singleton]; rw [show (1 : Int) + 2 * (ps.length : Int) + 2 = 1 + 2 * ((ps.length + 1 : Nat) : Int) by omega]; rfl⟩, ⟨_, hou6⟩, hgood,
        st, sc, ws, us, n2, o4, oc, D, od5, (Rd, listOf rs.toArray n9) :: ls, _, hdu6, rfl, hS4, hIw, hul, doc, hne, hst, hod5, by
          rw [List.map_append, List.map_singleton, hpk]
          exact UVals.snoc (hvr.mono fun q hq => by simp at hq; simp [hq]) (huv.mono fun q hq => .tail _ hq), hDs, (fun q hq => by
          rcases hmem q hq with e | e | e
          · rw [e]; exact hDn (st, o) (by simp)
          · rw [e]; exact Nat.ne_of_gt (hRd (D, od) (by simp))
          · exact hDn q e), (fun q hq => by
          rcases List.mem_cons.mp hq with e | e
          · rw [e]; exact fun z => hRne (st, o4) (by simp) z.symm
          · exact hls q e), hll.cons⟩
    refine ⟨⟨_, _, s.gens, _, _, rfl, F9, N9, ?_, rfl, ps ++ [pd], _, by simp [hpl], hp5' _, rfl, ?_⟩⟩
    · intro q hq
      rcases List.mem_cons.mp hq with e | e
      · rw [e]; exact hnI (D2, listOf vs.toArray n) (by simp)
      · rcases List.mem_cons.mp e with e | e
        · rw [e]; exact hnI (D, od) (by simp)
        · rcases hmem q e with e | e | e
          · rw [e]; exact hnI (st, o) (by simp)
          · rw [e]; exact fun z => hRne (I, oI) (by simp) z.symm
          · exact hnI q (.tail _ (.tail _ e))
    · intro q hq
      rcases List.mem_cons.mp hq with e | e
      · rw [e]; exact hD2' (D, od) (by simp)
      · rcases hmem q e with e | e | e
        · rw [e]; exact hD2' (st, o) (by simp)
        · rw [e]; exact fun z => hRne (D2, listOf vs.toArray n) (by simp) z.symm
        · exact hD2' q (.tail _ e)
end LawB
end Mine
end
/-! part LawC -/
section
theorem Mine.startLawC : True := by
  w_top off
  exact trivial
open PySem PySem.W PyProof.Rows PySem.Calls PySem.Spec
set_option Elab.async false
set_option maxRecDepth 100000
namespace Mine
/-- how a sign is written in a line's text -/
def escD (c : Nat) : List Nat := if c = 92 then [92, 92] else if c = 10 then [92, 110] else if c = 44 then [92, 44] else if c = 59 then [92, 59] else [c]
def escV (t : List Nat) : List Nat := (t.map escD).flatten
theorem escD_len (c : Nat) : (escD c).length ≤ 2 := by
  unfold escD
  by_cases h1 : c = 92
  · simp [h1]
  · by_cases h2 : c = 10
    · simp [h2]
    · by_cases h3 : c = 44
      · simp [h3]
      · by_cases h4 : c = 59
        · simp [h4]
        · simp [h1, h2, h3, h4]
theorem escV_len : ∀ t : List Nat, (escV t).length ≤ 2 * t.length
  | [] => by simp [escV]
  | c :: r => by
    have h1 := escV_len r
    have h2 := escD_len c
    simp only [escV, List.map_cons, List.flatten_cons, List.length_append, List.length_cons] at h1 ⊢
    omega
theorem escD_sums : ∀ t : List Nat, ((t.map fun c => S (escD c)).map (·.length)).sum ≤ 2 * t.length
  | [] => by simp
  | c :: r => by
    have h1 := escD_sums r
    have h2 := escD_len c
    simp only [List.map_cons, List.sum_cons, S_len, List.length_cons] at h1 ⊢
    omega
theorem get4 (x : Nat) (a b c d e f g h : Tok) : (Spec.lookup (PyData.str (S [x])) (strData [(Value.str (Str.ofString "\\") a, Value.str (Str.ofString "\\\\") b), (Value.str (Str.ofString "\n") c, Value.str (Str.ofString "\\n") d), (Value.str (Str.ofString ",") e, Value.str (Str.ofString "\\,") f), (Value.str (Str.ofString ";") g, Value.str (Str.ofString "\\;") h)])).getD (PyData.str (S [x])) = PyData.str (S (escD x)) := by
  have e1 : Str.ofString "\\\\" = S [92, 92] := by decide +kernel
  have e2 : Str.ofString "\\n" = S [92, 110] := by decide +kernel
  have e3 : Str.ofString "\\," = S [92, 44] := by decide +kernel
  have e7 : Str.ofString "\\;" = S [92, 59] := by decide +kernel
  have e4 : Str.ofString "\\" = S [92] := by decide +kernel
  have e5 : Str.ofString "\n" = S [10] := by decide +kernel
  have e6 : Str.ofString "," = S [44] := by decide +kernel
  have e8 : Str.ofString ";" = S [59] := by decide +kernel
  rw [e1, e2, e3, e7, e4, e5, e6, e8]
  have hs : ∀ x y : Str, Spec.same (.str x) (.str y) = (x == y) := fun x y => by unfold Spec.same; rfl
  simp only [strData, datumOf, Option.getD_some, Spec.lookup, hs, S_beq]
  unfold escD
  by_cases h1 : x = 92
  · subst h1; rfl
  · by_cases h2 : x = 10
    · subst h2; rfl
    · by_cases h3 : x = 44
      · subst h3; rfl
      · by_cases h4 : x = 59
        · subst h4; rfl
        · simp [h1, h2, h3, h4, Ne.symm h1, Ne.symm h2, Ne.symm h3, Ne.symm h4]
/-- the law's state behind its line -/
structure P7 (w : World) (L : Addr) (oA : Obj) (b : Bool) (nm : List Nat) (bl : Int) (sg : Nat) (ps : List PD) (tx : List Nat) (z : List Nat) (m : Str → Option Value) (nw : List (Addr × Obj)) : Prop where
  strict : m (Str.ofString "strict") = some (.bool b)
  name : ∃ t, m (Str.ofString "name") = some (.str (S nm) t)
  nmOk : nm ∈ [nmA, nmB, nmC]
  bl0 : 0 ≤ bl
  bl8 : bl < 8
  blank : ∃ t, m (Str.ofString "blank") = some (.int bl t)
  sgOk : sg = 32 ∨ sg = 9
  places : ∃ t, m (Str.ofString "places") = some (.int (1 + 2 * (ps.length : Int)) t)
  psl : ps.length ≤ 2
  good : ∀ (i : Nat) (p : PD), ps[i]? = some p → PDok bl i p
  txl : tx.length ≤ 4
  txm : ∀ c ∈ tx, c ∈ signsL
  zeq : z = outA nm bl sg ps ++ 58 :: escV tx
  led : ∃ (st sc : Addr) (ws : List Value) (us : List Int) (n2 : Nat) (o oB oc : Obj) (D : Addr) (od : Obj) (ls : List (Addr × Obj)) (kvs : List (Str × Value)) (Tx : Addr) (tys : List Value) (tz : Tok), m (Str.ofString "due") = some (.ref D) ∧ m (Str.ofString "text") = some (.ref Tx) ∧ nw = (D, od) :: LedA st o sc ws n2 L oA oB oc ((Tx, LCg.lst tys) :: ls) ∧ StObj sc o ∧ IntsAre ws us ∧ us.length ≤ 30 ∧ oc.data = .cell (some (.ref st)) ∧ oB.data = .cell (some (.str (S z) tz)) ∧ (@Ne Nat sc st) ∧
    (∀ p ∈ (sc, listOf ws.toArray n2) :: (L + 1 + 1 + 1, oA) :: (L + 1 + 1, oB) :: (L + 1, oc) :: [], p.1 ≠ st) ∧ Obj.IsDictOf (PySem.strKind PySem.Challenge.rw_bl0007_01.row.prog w) od kvs ∧ UVals ls (ps.map (dueP b)) kvs ∧ StrsAre tys (tx.map fun c => S [c]) ∧ (D == sysModules) = false ∧ (∀ p ∈ LedA st o sc ws n2 L oA oB oc ((Tx, LCg.lst tys) :: ls), p.1 ≠ D) ∧ (∀ p ∈ (Tx, LCg.lst tys) :: ls, p.1 ≠ st) ∧ TabsIn ls
theorem cell_ne {h₀ h : Heap} {L : Addr} {nw : List (Addr × Obj)} {c : Addr} {oc : Obj} {v : Option Value} (N : News h₀ L h nw) (hc : (c, oc) ∈ nw) (hd : oc.data = .cell v) {p : Addr × Obj} (hp : p ∈ nw) (hl : ∀ v', p.2.data ≠ .cell v') : p.1 ≠ c := fun e => by
  have h1 := (N _ hc).1
  have h2 := (N _ hp).1
  rw [e] at h2
  dsimp only at h1
  rw [h1] at h2
  have h3 := Option.some.inj h2
  exact hl v (by rw [← h3]; exact hd)
section LawC
local macro_rules | `(tactic| walk_at "subscriptTail") => `(tactic| ((with_reducible show wpAny _ _ (subscriptTail _ _ (Value.ref _) (Value.int _ _)) _ _ _); refine TEnd.out ?_))
local macro_rules | `(tactic| walk_at "CompSrc") => `(tactic| refine TEnd.out ?_)
local macro_rules | `(tactic| walk_at "eval ListComp") => `(tactic| refine TEnd.out ?_)
local macro_rules | `(tactic| walk_at "call builtin:str.join") => `(tactic| refine TEnd.out ?_)
local macro_rules | `(tactic| k_room) => `(tactic| ktr_room)
local macro_rules | `(tactic| k_units) => `(tactic| ktr_units)
local macro_rules | `(tactic| k_all) => `(tactic| assumption)
local macro_rules | `(tactic| walk_at "eval Name") => `(tactic| (k_here; k_dflt (refine' nameX_L ?F ?v ?_ ?a ?b; (case a => rfl); (case b => rfl); (case F => k_asm); (case v => first | exact rfl | assumption); k_whole)))
local macro_rules | `(tactic| walk_at "call ref") => `(tactic| refine TEnd.out ?_)
set_option pp.deepTerms false
set_option pp.maxSteps 2000
set_option maxHeartbeats 4000000 in
theorem law_c {w : World} {mean : ExcName → Option Value} {mg mb : Str → Option Value} {h₀ : Heap} {L f : Addr} {cd : Value} {s : Shared}
    {Q : Flow → Shared → Prop} {E : Value → Shared → Prop} {oA oB : Obj} {b : Bool} {nm : List Nat} {bl : Int} {sg : Nat} {ps : List PD} {m : Str → Option Value} {nw : List (Addr × Obj)} (dA : oA.data = .cell none) (dB : oB.data = .cell none)
    (B : Below callerA h₀ [] h₀) (X : (K0 w.params).In h₀) (T : Top hd.view_39 loos mean mg mb h₀) (F : Fr h₀ L s.heap m) (N : News h₀ L s.heap nw) (p5 : P5 w L oA oB b nm bl sg ps m nw) (hps : ps.length ≤ 2)
    (hk : ∀ tx z h6 tk6 m6 nw6, Fr h₀ L h6 m6 → News h₀ L h6 nw6 → P7 w L oA b nm bl sg ps tx z m6 nw6 → LawAt w 8 L f cd Q E { s with heap := h6, toks := tk6 }) :
    LawAt w 6 L f cd Q E s := by
  refine ⟨?_⟩
  revert X; k_fill; intro X
  show wpAny _ (Around.deeper _ (envOfC _ ⟨_, _, _, _, _⟩ _ _ _)) (execs (Stmt.Assign _ _ _ :: _) (envOfC _ ⟨_, _, _, _, _⟩ _ _ _)) _ _ _
  obtain ⟨st, sc, ws, us, n2, o, oc, D, od, ls, kvs, hdu, rfl, hS, hIw, hul, doc, hne, hst, hod, huv, hDs, hDn, hls, hll⟩ := p5.led
  obtain ⟨tnm, hnm1⟩ := p5.name
  obtain ⟨tbl, hbl⟩ := p5.blank
  obtain ⟨tpl, hpl1⟩ := p5.places
  obtain ⟨tou, hou⟩ := p5.out
  have hb := p5.strict
  have hDst : @Ne Nat D st := fun e => hDn (st, o) (by simp) e.symm
  have hUst : ∀ (pre ls' : List (Addr × Obj)) o', (∀ p ∈ pre, p.1 ≠ st) → (∀ p ∈ ls', p.1 ≠ st) → UpdF st o' (pre ++ LedA st o' sc ws n2 L oA oB oc ls') (fun x => pre ++ LedA st x sc ws n2 L oA oB oc ls') := fun pre ls' o' h h' => updF_of (fun _ => rfl) h (fun p hp => by
    simp only [List.mem_cons] at hp
    rcases hp with e | e | e | e | e
    · exact hst p (by simp [e])
    · exact hst p (by simp [e])
    · exact hst p (by simp [e])
    · exact hst p (by simp [e])
    · exact h' p e)
  refine execs_cut (h₀ := h₀) (L := L) (fun m2 nw => ∃ (tx : List Nat) (Tx : Addr) (tys : List Value) (o2 : Obj), m2 = (fun y => if y = Str.ofString "text" then some (.ref Tx) else m y) ∧ tx.length ≤ 4 ∧ (∀ c ∈ tx, c ∈ signsL) ∧ StrsAre tys (tx.map fun c => S [c]) ∧ StObj sc o2 ∧ nw = (D, od) :: LedA st o2 sc ws n2 L oA oB oc ((Tx, LCg.lst tys) :: ls) ∧ (∀ p ∈ (D, od) :: LedA st o2 sc ws n2 L oA oB oc ls, p.1 ≠ Tx)) ?_ ?_
  · k_steps
    refine TEnd.mk ?_
    obtain ⟨menu, hmenu, hmx⟩ := menuS X
    refine ltext_w B F X N T (hUst [(D, od)] ls o (fun p hp => by rw [List.mem_singleton.mp hp]; exact hDst) hls) hS (.tail _ (.tail _ (.head _))) hIw hul hne hmenu hmx (by decide) (by decide) (by decide) (by decide) ?_
    intro l7 n7 ys7 zs7 o7 h7 tk7 hz1 hz2 hz3 hS7 F7 N7 hne7
    obtain ⟨t7, rfl, ht7⟩ := codes_of_menu hz3
    dsimp only [List.cons_append, List.nil_append] at N7 hne7 ⊢
    have hz0 : TEnd (StrsAre ys7 (t7.map fun c => S [c])) := ⟨hz1⟩
    clear hz1
    k_steps
    refine TEnd.mk ⟨trivial, _, _, _, _, rfl, by assumption, fun p hp => (by assumption : News h₀ L _ ((l7, _) :: _)) p ?_, t7, l7, ys7, o7, rfl, by simpa using hz2, ht7, hz0.out, hS7, rfl, hne7⟩
    simp only [List.mem_cons] at hp ⊢
    rcases hp with e | e | e | e | e | e | e | e <;> simp [e]
  clear F N hS
  rintro h2 tk2 m2 nw2 F2 N2 ⟨tx, Tx, tys, o2, rfl, htl, htm, hty, hS2, rfl, hTn⟩
  have hol : (S (outA nm bl sg ps)).length ≤ 70 := by
    rw [S_len]
    have := out_len (sg := sg) p5.nmOk p5.good
    omega
  have hty0 : TEnd (StrsAre tys (tx.map fun c => S [c])) := ⟨hty⟩
  clear hty
  have htz : tys.toArray.size = tx.length := by rw [List.size_toArray, strs_len hty0.out, List.length_map]
  have h58 : Str.ofString ":" = S [58] := by decide +kernel
  refine execs_cut (h₀ := h₀) (L := L) (fun m3 nw => m3 = (fun y => if y = Str.ofString "text" then some (.ref Tx) else m y) ∧ ∃ (oB' : Obj) (tz : Tok), oB'.data = .cell (some (.str (S (outA nm bl sg ps ++ 58 :: escV tx)) tz)) ∧ nw = (D, od) :: LedA st o2 sc ws n2 L oA oB' oc ((Tx, LCg.lst tys) :: ls)) ?_ ?_
  · k_steps
    refine TEnd.mk ?_
    refine LCg.ListComp_U (F₀ := F2) (by with_unfolding_all rfl) (by decide) (by rfl) (by decide) (by rfl) ?_
    k_steps
    refine TEnd.mk ?_
    refine LCg.CompSrc.ledger rfl F2 N2 (.tail _ (.tail _ (.tail _ (.tail _ (.tail _ (.tail _ (.head _))))))) (by rw [htz, PySem.sizeLine_eq]; omega) fun gg => ?_
    refine rest_inv (n := tys.toArray.size) (fun i2 zs nw => nw = (D, od) :: LedA st o2 sc ws n2 L oA oB oc ((Tx, LCg.lst tys) :: ls) ∧ StrsAre zs ((tx.take i2).map fun c => S (escD c))) ?_ ?_ _ 0 [] _ (Nat.zero_add _) ⟨rfl, .nil⟩
    · rintro i2 zs nw v2 I2 oI2 C2 oC2 D3 m₂ h6 tk6 E' hi2 ⟨rfl, hzs⟩ hv2 hC2 hx2 F5 N5 off ne
      have hzs0 : TEnd (StrsAre zs ((tx.take i2).map fun c => S (escD c))) := ⟨hzs⟩
      clear hzs
      obtain ⟨q2, tq2, hq2, rfl⟩ := strs_at hty0.out i2 v2 (by simpa using hv2)
      obtain ⟨c2, hc2, rfl⟩ : ∃ c, tx[i2]? = some c ∧ q2 = S [c] := by
        rw [List.getElem?_map] at hq2
        cases e : tx[i2]? with
        | none => rw [e] at hq2; cases hq2
        | some c => rw [e] at hq2; exact ⟨c, rfl, (Option.some.inj hq2).symm⟩
      have htk2 : tx.take (i2 + 1) = tx.take i2 ++ [c2] := by rw [List.take_add_one, hc2]; rfl
      dsimp only
      k_steps
      dsimp only at *
      have hv9 := (by assumption : PyProof.V.Flat _ _)
      rw [get4] at hv9
      obtain ⟨t9, rfl⟩ := flat_str hv9
      refine LCg.CompEnd.intro (by assumption) (by assumption) ((D, od) :: LedA st o2 sc ws n2 L oA oB oc ((Tx, LCg.lst tys) :: ls)) (fun p hp => .tail _ hp) off (.inr ⟨_, .tail _ (.tail _ (.tail _ (.tail _ (.tail _ (.tail _ (.head _)))))), rfl, _, rfl⟩) ⟨rfl, ?_⟩
      rw [htk2, List.map_append]
      exact strs_snoc1 hzs0.out
    · rintro zs nw ⟨rfl, hzs⟩
      rw [htz, List.take_length] at hzs
      have hzs0 : TEnd (StrsAre zs (tx.map fun c => S (escD c))) := ⟨hzs⟩
      clear hzs
      intro D3 h6 tk6 F5 N5 off5
      dsimp only
      k_steps
      refine TEnd.mk ?_
      have hj : Txt.join (Str.ofString "") (tx.map fun c => S (escD c)) = S (escV tx) := by
        have := join_flat (tx.map escD)
        rw [List.map_map] at this
        exact this
      refine join_listW (items := zs.toArray) ⟨_, (N5 _ (.head _)).1, rfl, _, rfl⟩ hzs0.out (by decide +kernel) (by rw [List.length_map]; have := escD_sums tx; omega) ?_
      intro t9 k9
      rw [hj]
      have hvl : (S (escV tx)).length ≤ 8 := by rw [S_len]; have := escV_len tx; omega
      dsimp only
      k_steps
      have hcm : ((L + 1 + 1, oB) : Addr × Obj) ∈ (D3, LCg.lst zs) :: (D, od) :: LedA st o2 sc ws n2 L oA oB oc ((Tx, LCg.lst tys) :: ls) := by simp
      refine storeX_C (c := L + 1 + 1) (g := fun x => (D3, LCg.lst zs) :: (D, od) :: LedA st o2 sc ws n2 L oA x oc ((Tx, LCg.lst tys) :: ls)) F5 N5 rfl (updF_of (pre := [(D3, LCg.lst zs), (D, od), (st, o2), (sc, listOf ws.toArray n2), (L + 1 + 1 + 1, oA)]) (fun _ => rfl) ?hpreC ?hpostC) dB ?_ rfl rfl
      case hpreC =>
        intro p hp
        simp only [List.mem_cons, List.not_mem_nil, or_false] at hp
        rcases hp with e | e | e | e | e
        · rw [e]; exact cell_ne N5 hcm dB (by simp) (fun v' q => nomatch q)
        · rw [e]; exact fun q => hDn (L + 1 + 1, oB) (by simp) q.symm
        · rw [e]; exact fun q => hst (L + 1 + 1, oB) (by simp) q.symm
        · rw [e]; exact cell_ne N5 hcm dB (p := (sc, listOf ws.toArray n2)) (by simp) (fun v' q => nomatch q)
        · rw [e]; exact Nat.succ_ne_self _
      case hpostC =>
        intro p hp
        simp only [List.mem_cons] at hp
        rcases hp with e | e | e
        · rw [e]; exact (Nat.succ_ne_self (L + 1)).symm
        · rw [e]; exact cell_ne N5 hcm dB (p := (Tx, LCg.lst tys)) (by simp) (fun v' q => nomatch q)
        · exact cell_ne N5 hcm dB (by simp [e]) (hll.noCell e)
      intro h7 oB' F7 N7 dB'
      dsimp only
      obtain ⟨tz, htz9⟩ : ∃ tz, oB'.data = .cell (some (.str (S (outA nm bl sg ps ++ 58 :: escV tx)) tz)) := by
        rw [h58, S_app, S_app, List.append_assoc] at dB'
        exact ⟨_, dB'⟩
      exact TEnd.mk ⟨trivial, _, _, _, _, rfl, F7, fun p hp => N7 p (.tail _ hp), rfl, oB', tz, htz9, rfl⟩
  clear F2 N2
  rintro h3 tk3 m3 nw3 F3 N3 ⟨rfl, oB', tz, dB', rfl⟩
  have hmem : ∀ q ∈ LedA st o2 sc ws n2 L oA oB' oc ((Tx, LCg.lst tys) :: ls), q = (st, o2) ∨ q = (Tx, LCg.lst tys) ∨ q = (L + 1 + 1, oB') ∨ q ∈ LedA st o sc ws n2 L oA oB oc ls := by
    intro q hq
    simp only [List.mem_cons] at hq ⊢
    rcases hq with e | e | e | e | e | e | e <;> simp [e]
  obtain ⟨h99⟩ := hk tx _ h3 _ _ _ F3 N3 ⟨hb, ⟨_, hnm1⟩, p5.nmOk, p5.bl0, p5.bl8, ⟨_, hbl⟩, p5.sgOk, ⟨_, hpl1⟩, hps, p5.good, htl, htm, rfl, st, sc, ws, us, n2, o2, oB', oc, D, od, ls, kvs, Tx, tys, tz, hdu, rfl, rfl, hS2, hIw, hul, doc, dB', hne, (fun p hp => by
      simp only [List.mem_cons, List.not_mem_nil, or_false] at hp
      rcases hp with e | e | e | e
      · exact hst p (by simp [e])
      · exact hst p (by simp [e])
      · rw [e]; exact hst (L + 1 + 1, oB) (by simp)
      · exact hst p (by simp [e])), hod, huv, hty0.out, hDs, (fun q hq => by
      rcases hmem q hq with e | e | e | e
      · rw [e]; exact hDn (st, o) (by simp)
      · rw [e]; exact fun z => hTn (D, od) (by simp) z.symm
      · rw [e]; exact hDn (L + 1 + 1, oB) (by simp)
      · exact hDn q e), (fun q hq => by
      rcases List.mem_cons.mp hq with e | e
      · rw [e]; exact fun z => hTn (st, o2) (by simp) z.symm
      · exact hls q e), hll⟩
  assumption
end LawC
end Mine
end
/-! part Clean -/
section
theorem Mine.startClean : True := by
  w_top off
  exact trivial
open PySem PySem.W PyProof.Rows PySem.Calls PySem.Spec
set_option Elab.async false
set_option maxRecDepth 100000
namespace Mine
/-- neither a return nor a new line -/
def Cl (l : List Nat) : Prop := ∀ c ∈ l, c ≠ 13 ∧ c ≠ 10
theorem Cl.app {a b : List Nat} (h1 : Cl a) (h2 : Cl b) : Cl (a ++ b) := fun c hc => (List.mem_append.mp hc).elim (h1 c) (h2 c)
theorem Cl.cons {c : Nat} {b : List Nat} (h1 : c ≠ 13 ∧ c ≠ 10) (h2 : Cl b) : Cl (c :: b) := fun d hd => (List.mem_cons.mp hd).elim (fun e => e ▸ h1) (h2 d)
theorem Cl.nil : Cl [] := fun _ h => nomatch h
theorem Cl.flat : ∀ {l : List (List Nat)}, (∀ x ∈ l, Cl x) → Cl l.flatten
  | [], _ => .nil
  | x :: r, h => by rw [List.flatten_cons]; exact (h x (.head _)).app (Cl.flat fun y hy => h y (.tail _ hy))
theorem marks13 : ∀ c ∈ marks, c ≠ 13 := by decide
theorem signs13 : ∀ c ∈ signsL, c ≠ 13 := by decide
theorem cl_escC {c : Nat} (h : c ≠ 13) : Cl (escC c) := by
  unfold escC
  intro d hd
  by_cases h1 : c = 94
  · rw [if_pos h1] at hd; simp at hd; omega
  · rw [if_neg h1] at hd
    by_cases h2 : c = 10
    · rw [if_pos h2] at hd; simp at hd; omega
    · rw [if_neg h2] at hd
      by_cases h3 : c = 34
      · rw [if_pos h3] at hd; simp at hd; omega
      · rw [if_neg h3] at hd; simp at hd; omega
theorem cl_escP {t : List Nat} (h : ∀ c ∈ t, c ∈ marks) : Cl (escP t) := Cl.flat fun x hx => by
  obtain ⟨c, hc, rfl⟩ := List.mem_map.mp hx
  exact cl_escC (marks13 c (h c hc))
theorem cl_wrP {q : Bool} {t : List Nat} (h : ∀ c ∈ t, c ∈ marks) : Cl (wrP q t) := by
  unfold wrP
  cases q
  · exact cl_escP h
  · exact (cl_escP h).app (.cons (by decide) .nil) |> Cl.cons (by decide)
theorem cl_join : ∀ {l : List (List Nat)}, (∀ x ∈ l, Cl x) → Cl (joinC l)
  | [], _ => .nil
  | [x], h => h x (.head _)
  | x :: y :: r, h => (h x (.head _)).app (.cons (by decide) (cl_join (l := y :: r) fun z hz => h z (.tail _ hz)))
theorem cl_zip {qs : List Bool} {ts : List (List Nat)} (h : ∀ t ∈ ts, ∀ c ∈ t, c ∈ marks) : ∀ x ∈ List.zipWith wrP qs ts, Cl x := by
  intro x hx
  obtain ⟨i, hi, rfl⟩ := List.getElem_of_mem hx
  rw [List.getElem_zipWith]
  exact cl_wrP (h _ (List.getElem_mem _))
theorem cl_parT {bl : Int} {i sg : Nat} {p : PD} (hs : sg = 32 ∨ sg = 9) (h : PDok bl i p) : Cl (parT sg p) := by
  have h1 : ∀ b : Bool, Cl (if b then [sg] else []) := fun b => by
    cases b
    · exact .nil
    · exact .cons (by omega) .nil
  have h2 : Cl p.key := by rw [h.key]; unfold keyAt; split <;> (intro c hc; revert c; decide)
  unfold parT
  exact .cons (by decide) ((((h1 _).app h2).app (h1 _)).app (.cons (by decide) (cl_join (cl_zip h.marks))))
theorem cl_escD {c : Nat} (h : c ≠ 13) : Cl (escD c) := by
  unfold escD
  intro d hd
  by_cases h1 : c = 92
  · rw [if_pos h1] at hd; simp at hd; omega
  · rw [if_neg h1] at hd
    by_cases h2 : c = 10
    · rw [if_pos h2] at hd; simp at hd; omega
    · rw [if_neg h2] at hd
      by_cases h3 : c = 44
      · rw [if_pos h3] at hd; simp at hd; omega
      · rw [if_neg h3] at hd
        by_cases h4 : c = 59
        · rw [if_pos h4] at hd; simp at hd; omega
        · rw [if_neg h4] at hd; simp at hd; omega
theorem cl_line {nm : List Nat} {bl : Int} {sg : Nat} {ps : List PD} {tx : List Nat} (hn : nm ∈ [nmA, nmB, nmC]) (hs : sg = 32 ∨ sg = 9) (hg : ∀ (i : Nat) (p : PD), ps[i]? = some p → PDok bl i p) (ht : ∀ c ∈ tx, c ∈ signsL) : Cl (outA nm bl sg ps ++ 58 :: escV tx) := by
  have h1 : Cl nm := by
    simp only [List.mem_cons, List.not_mem_nil, or_false] at hn
    rcases hn with rfl | rfl | rfl <;> (intro c hc; revert c; decide)
  have h2 : Cl (if bl = 0 then [sg] else []) := by
    split
    · exact .cons (by omega) .nil
    · exact .nil
  have h3 : Cl ((ps.map (parT sg)).flatten) := Cl.flat fun x hx => by
    obtain ⟨p, hp, rfl⟩ := List.mem_map.mp hx
    obtain ⟨i, hi, rfl⟩ := List.getElem_of_mem hp
    exact cl_parT hs (hg i _ (List.getElem?_eq_getElem hi))
  exact (h1.app (h2.app h3)).app (.cons (by decide) (Cl.flat fun x hx => by
    obtain ⟨c, hc, rfl⟩ := List.mem_map.mp hx
    exact cl_escD (signs13 c (ht c hc))))
namespace UF
theorem Fold.app {l p r q : List Nat} (h : Fold l p) (h2 : Fold r q) : Fold (l ++ r) (p ++ q) := by
  induction h with
  | nil => exact h2
  | ch a b _ ih => exact .ch a b ih
  | cr _ ih => exact .cr ih
  | lf _ ih => exact .lf ih
theorem Fold.one {c : Nat} (h : c ≠ 13 ∧ c ≠ 10) : Fold [c] [c] := .ch h.1 h.2 .nil
end UF
end Mine
end
/-! part LawD -/
section
theorem Mine.startLawD : True := by
  w_top off
  exact trivial
local macro_rules | `(tactic| walk_at "pad0") => `(tactic| skip)
local macro_rules | `(tactic| walk_at "pad1") => `(tactic| skip)
local macro_rules | `(tactic| walk_at "pad2") => `(tactic| skip)
local macro_rules | `(tactic| walk_at "pad3") => `(tactic| skip)
local macro_rules | `(tactic| walk_at "pad4") => `(tactic| skip)
local macro_rules | `(tactic| walk_at "pad5") => `(tactic| skip)
local macro_rules | `(tactic| walk_at "pad6") => `(tactic| skip)
open PySem PySem.W PyProof.Rows PySem.Calls PySem.Spec
set_option Elab.async false
set_option maxRecDepth 100000
namespace Mine
theorem P7.zlen {w : World} {L : Addr} {oA : Obj} {b : Bool} {nm : List Nat} {bl : Int} {sg : Nat} {ps : List PD} {tx z : List Nat} {m : Str → Option Value} {nw : List (Addr × Obj)} (p : P7 w L oA b nm bl sg ps tx z m nw) : 6 ≤ z.length ∧ z.length ≤ 80 := by
  have h1 := out_len (sg := sg) p.nmOk p.good
  have h2 := escV_len tx
  have h3 := p.txl
  have h4 := p.psl
  have h5 : 5 ≤ nm.length := by
    have hn := p.nmOk
    simp only [List.mem_cons, List.not_mem_nil, or_false] at hn
    rcases hn with rfl | rfl | rfl <;> decide
  have h6 : nm.length ≤ (outA nm bl sg ps).length := by simp [outA]
  rw [p.zeq]
  simp only [List.length_append, List.length_cons]
  omega
theorem P7.clean {w : World} {L : Addr} {oA : Obj} {b : Bool} {nm : List Nat} {bl : Int} {sg : Nat} {ps : List PD} {tx z : List Nat} {m : Str → Option Value} {nw : List (Addr × Obj)} (p : P7 w L oA b nm bl sg ps tx z m nw) : Cl z := by
  rw [p.zeq]; exact cl_line p.nmOk p.sgOk p.good p.txm
theorem P7.turn {w : World} {L : Addr} {oA : Obj} {b : Bool} {nm : List Nat} {bl : Int} {sg : Nat} {ps : List PD} {tx z : List Nat} {m m' : Str → Option Value} {nw : List (Addr × Obj)} (p : P7 w L oA b nm bl sg ps tx z m nw)
    (h : ∀ x ∈ [Str.ofString "strict", Str.ofString "name", Str.ofString "blank", Str.ofString "places", Str.ofString "due", Str.ofString "text"], m' x = m x) : P7 w L oA b nm bl sg ps tx z m' nw := by
  obtain ⟨a1, a2, a3, a4, a5, a6, a7, a8, a9, a10, a11, a12, a13, st, sc, ws, us, n2, o, oB, oc, D, od, ls, kvs, Tx, tys, tz, hdu, htx, r⟩ := p
  exact ⟨(h _ (by simp)).trans a1, a2.imp fun t e => (h _ (by simp)).trans e, a3, a4, a5, a6.imp fun t e => (h _ (by simp)).trans e, a7, a8.imp fun t e => (h _ (by simp)).trans e, a9, a10, a11, a12, a13, st, sc, ws, us, n2, o, oB, oc, D, od, ls, kvs, Tx, tys, tz, (h _ (by simp)).trans hdu, (h _ (by simp)).trans htx, r⟩
theorem P7.set {w : World} {L : Addr} {oA : Obj} {b : Bool} {nm : List Nat} {bl : Int} {sg : Nat} {ps : List PD} {tx z : List Nat} {m : Str → Option Value} {nw : List (Addr × Obj)} (p : P7 w L oA b nm bl sg ps tx z m nw) (n : Str) (v : Value)
    (hn : n ∉ [Str.ofString "strict", Str.ofString "name", Str.ofString "blank", Str.ofString "places", Str.ofString "due", Str.ofString "text"]) : P7 w L oA b nm bl sg ps tx z (fun y => if y = n then some v else m y) nw :=
  p.turn fun x hx => if_neg fun e => hn (by rw [← e]; exact hx)
theorem hUst_of {st sc : Addr} {ws : List Value} {n2 : Nat} {L : Addr} {oA oB oc : Obj} (hst : ∀ p ∈ (sc, listOf ws.toArray n2) :: (L + 1 + 1 + 1, oA) :: (L + 1 + 1, oB) :: (L + 1, oc) :: [], p.1 ≠ st) (pre ls' : List (Addr × Obj)) (o' : Obj) (h : ∀ p ∈ pre, p.1 ≠ st) (h' : ∀ p ∈ ls', p.1 ≠ st) :
    UpdF st o' (pre ++ LedA st o' sc ws n2 L oA oB oc ls') (fun x => pre ++ LedA st x sc ws n2 L oA oB oc ls') := updF_of (fun _ => rfl) h (fun p hp => by
    simp only [List.mem_cons] at hp
    rcases hp with e | e | e | e | e
    · exact hst p (by simp [e])
    · exact hst p (by simp [e])
    · exact hst p (by simp [e])
    · exact hst p (by simp [e])
    · exact h' p e)
theorem ints_snoc {k : Int} {t : Tok} : ∀ {vs : List Value} {ns : List Int}, IntsAre vs ns → IntsAre (vs ++ [.int k t]) (ns ++ [k])
  | _, _, .nil => .cons k t .nil
  | _, _, .cons a b r => .cons a b (ints_snoc r)
/-- but for the state's object the same -/
theorem led_mem {pre : List (Addr × Obj)} {st : Addr} {o2 : Obj} {sc : Addr} {ws : List Value} {n2 : Nat} {L : Addr} {oA oB oc : Obj} {ls : List (Addr × Obj)} {p : Addr × Obj} (hp : p ∈ pre ++ LedA st o2 sc ws n2 L oA oB oc ls) : p = (st, o2) ∨ ∀ o, p ∈ pre ++ LedA st o sc ws n2 L oA oB oc ls := by
  rcases List.mem_append.mp hp with h | h
  · exact .inr fun o => List.mem_append.mpr (.inl h)
  · rcases List.mem_cons.mp h with h | h
    · exact .inl h
    · exact .inr fun o => List.mem_append.mpr (.inr (.tail _ h))
section LawD
local macro_rules | `(tactic| walk_at "subscriptTail") => `(tactic| ((with_reducible show wpAny _ _ (subscriptTail _ _ (Value.ref _) (Value.int _ _)) _ _ _); refine TEnd.out ?_))
local macro_rules | `(tactic| walk_at "CompSrc") => `(tactic| refine TEnd.out ?_)
local macro_rules | `(tactic| walk_at "exec Assign cons ListComp") => `(tactic| refine TEnd.out ?_)
local macro_rules | `(tactic| walk_at "eval ListComp") => `(tactic| refine TEnd.out ?_)
local macro_rules | `(tactic| k_room) => `(tactic| ktr_room)
local macro_rules | `(tactic| k_units) => `(tactic| ktr_units)
local macro_rules | `(tactic| k_all) => `(tactic| assumption)
local macro_rules | `(tactic| walk_at "eval Name") => `(tactic| (k_here; k_dflt (refine' nameX_L ?F ?v ?_ ?a ?b; (case a => rfl); (case b => rfl); (case F => k_asm); (case v => first | exact rfl | assumption); k_whole)))
local macro_rules | `(tactic| walk_at "call ref") => `(tactic| refine TEnd.out ?_)
local macro_rules | `(tactic| walk_at "compareOp In int ref") => `(tactic| refine TEnd.out ?_)
local macro_rules | `(tactic| walk_at "exec For") => `(tactic| refine TEnd.out ?_)
local macro_rules | `(tactic| walk_at "exec For Name Call cons nil") => `(tactic| refine TEnd.out ?_)
set_option pp.deepTerms false
set_option pp.maxSteps 2000
set_option maxHeartbeats 4000000 in
theorem law_d {w : World} {mean : ExcName → Option Value} {mg mb : Str → Option Value} {h₀ : Heap} {L f : Addr} {cd : Value} {s : Shared}
    {Q : Flow → Shared → Prop} {E : Value → Shared → Prop} {oA : Obj} {b : Bool} {nm : List Nat} {bl : Int} {sg : Nat} {ps : List PD} {tx z : List Nat} {m : Str → Option Value} {nw : List (Addr × Obj)} (dA : oA.data = .cell none)
    (B : Below callerA h₀ [] h₀) (X : (K0 w.params).In h₀) (T : Top hd.view_39 loos mean mg mb h₀) (F : Fr h₀ L s.heap m) (N : News h₀ L s.heap nw) (p7 : P7 w L oA b nm bl sg ps tx z m nw)
    (hk : ∀ y ty h6 tk6 m6 nw6, UF.Fold y z → y.length ≤ 400 → m6 (Str.ofString "out") = some (.str (S y) ty) → Fr h₀ L h6 m6 → News h₀ L h6 nw6 → P7 w L oA b nm bl sg ps tx z m6 nw6 → LawAt w 11 L f cd Q E { s with heap := h6, toks := tk6 }) :
    LawAt w 8 L f cd Q E s := by
  refine ⟨?_⟩
  revert X; k_fill; intro X
  show wpAny _ (Around.deeper _ (envOfC _ ⟨_, _, _, _, _⟩ _ _ _)) (execs (Stmt.Assign _ _ _ :: _) (envOfC _ ⟨_, _, _, _, _⟩ _ _ _)) _ _ _
  obtain ⟨hz6, hz80⟩ := p7.zlen
  have hcl := p7.clean
  have hzl : (S z).length = z.length := S_len z
  obtain ⟨z0, zr, hz0⟩ : ∃ z0 zr, z = z0 :: zr := by
    cases z with
    | nil => simp at hz6
    | cons a r => exact ⟨a, r, rfl⟩
  refine execs_cut (h₀ := h₀) (L := L) (fun m2 nw2 => P7 w L oA b nm bl sg ps tx z m2 nw2 ∧ ∃ t, m2 (Str.ofString "out") = some (.str (S [z0]) t)) ?_ ?_
  · obtain ⟨st, sc, ws, us, n2, o, oB, oc, D, od, ls, kvs, Tx, tys, tz, hdu, htx, rfl, hS, hIw, hul, doc, dB, hne, hst, hod, huv, hty, hDs, hDn, hls, hll⟩ := p7.led
    k_steps
    have F9 := (by assumption : Fr h₀ L _ (fun y => if y = Str.ofString "out" then _ else m y))
    have hit : Txt.item (S z) 0 = S [z0] := item_S (l := z) (i := 0) (by rw [hz0]; rfl)
    rw [hit] at F9
    exact TEnd.mk ⟨rfl, _, _, _, _, rfl, F9, by assumption, p7.set _ _ (by decide +kernel), _, rfl⟩
  clear F N
  rintro h2 tk2 m2 nw2 F2 N2 ⟨p72, tou, hou⟩
  clear p7
  refine execs_cut (h₀ := h₀) (L := L) (fun m3 nw3 => ∃ nw7 Cu cvs cns, P7 w L oA b nm bl sg ps tx z m3 nw7 ∧ m3 (Str.ofString "out") = some (.str (S [z0]) tou) ∧ m3 (Str.ofString "cuts") = some (.ref Cu) ∧ IntsAre cvs cns ∧ cvs.length ≤ 2 ∧ nw3 = (Cu, LCg.lst cvs) :: nw7 ∧ (∀ p ∈ nw7, p.1 ≠ Cu)) ?_ ?_
  · have hzp := fun v => p72.set (Str.ofString "cuts") v (by decide +kernel)
    obtain ⟨st, sc, ws, us, n2, o, oB, oc, D, od, ls, kvs, Tx, tys, tz, hdu, htx, rfl, hS, hIw, hul, doc, dB, hne, hst, hod, huv, hty, hDs, hDn, hls, hll⟩ := p72.led
    have hDst : @Ne Nat D st := fun e => hDn (st, o) (by simp) e.symm
    k_steps
    refine TEnd.mk ?_
    refine LCg.Assign_ListComp_U (F₀ := F2) (by rfl) (by with_unfolding_all rfl) (by with_unfolding_all rfl) (by decide) (by rfl) (by decide) (by rfl) (by rfl) (by rfl) ?_
    k_steps
    refine TEnd.mk ?_
    refine next_c B F2 X N2 T (hUst_of hst [(D, od)] ((Tx, LCg.lst tys) :: ls) o (fun p hp => by rw [List.mem_singleton.mp hp]; exact hDst) hls) hS (.tail _ (.tail _ (.head _))) hIw hul hne (by decide) (by decide) (by decide) (by decide) ?_
    intro r t1 o1 h4 tk4 hr0 hr3 hS1 F4 N4
    dsimp only [List.cons_append, List.nil_append] at N4 ⊢
    k_steps
    rename_i h5 tk5 ta tb tc hR F5 N5 k5
    refine TEnd.mk ?_
    refine LCg.CompSrc.range rfl F5 N5 hR (small_one (by omega) (by omega) (by omega) (by omega)) (rangeSize_nat _ _) (by rw [PySem.sizeLine_eq]; omega) fun gg => ?_
    refine rest_inv (n := (r - 0).toNat) (fun i2 ys nw => ∃ oc2 ns, nw = (D, od) :: LedA st oc2 sc ws n2 L oA oB oc ((Tx, LCg.lst tys) :: ls) ∧ StObj sc oc2 ∧ ys.length = i2 ∧ IntsAre ys ns) ?_ ?_ _ 0 [] _ (Nat.zero_add _) ⟨o1, [], rfl, hS1, rfl, .nil⟩
    · rintro i2 ys nw v2 I2 oI2 C2 oC2 D3 m₂ h6 tk6 E' hi2 ⟨oc2, ns2, rfl, hSc, hyl, hys⟩ hv2 hC2 hx2 F6 N6 off ne
      have off' := off.mem
      have hys0 : TEnd (IntsAre ys ns2) := ⟨hys⟩
      clear hys
      k_steps
      refine TEnd.mk ?_
      have hpre6 : ∀ p ∈ (I2, oI2) :: (C2, oC2) :: (D3, LCg.lst ys) :: (D, od) :: [], p.1 ≠ st := by
        intro p hp
        have h3 := off' (st, oc2) (by simp)
        simp only [List.mem_cons, List.not_mem_nil, or_false] at hp
        rcases hp with e | e | e | e <;> rw [e]
        · exact Ne.symm h3.1
        · exact Ne.symm h3.2.1
        · exact Ne.symm h3.2.2
        · exact hDst
      refine next_c B F6 X N6 T (hUst_of hst [(I2, oI2), (C2, oC2), (D3, LCg.lst ys), (D, od)] ((Tx, LCg.lst tys) :: ls) oc2 hpre6 hls) hSc (.tail _ (.tail _ (.tail _ (.tail _ (.tail _ (.head _)))))) hIw hul hne (by omega) (by omega) (by decide) (by decide) ?_
      intro r2 t2 o2 h7 tk7 hr20 hr22 hS2 F7 N7
      dsimp only [List.cons_append, List.nil_append] at N7 ⊢
      k_steps
      refine LCg.CompEnd.intro F7 N7 ((D, od) :: LedA st o2 sc ws n2 L oA oB oc ((Tx, LCg.lst tys) :: ls)) (fun p hp => hp) (LCg.Off3.of fun p hp => ?_) True.intro ⟨o2, ns2 ++ [1 + r2], rfl, hS2, by simp [hyl], ints_snoc hys0.out⟩
      rcases led_mem (pre := [(D, od)]) hp with e | e
      · rw [e]; exact off' (st, oc2) (by simp)
      · exact off' p (e oc2)
    · rintro ys nw ⟨oc2, ns2, rfl, hSc, hyl, hys⟩
      have hys0 : TEnd (IntsAre ys ns2) := ⟨hys⟩
      clear hys
      intro D3 h6 tk6 F6 N6 off6
      have off6' := off1_mem off6
      dsimp only
      k_steps
      have F9 := (by assumption : Fr h₀ L _ (fun z => if z = Str.ofString "cuts" then some (.ref D3) else m2 z))
      refine TEnd.mk ⟨rfl, _, _, _, _, rfl, F9, by assumption, _, D3, ys, ns2, { hzp (.ref D3) with led := ⟨st, sc, ws, us, n2, oc2, oB, oc, D, od, ls, kvs, Tx, tys, tz, hdu, htx, rfl, hSc, hIw, hul, doc, dB, hne, hst, hod, huv, hty, hDs, ?_, hls, hll⟩ }, hou, rfl, hys0.out, by omega, rfl, off6'⟩
      intro p hp
      rcases led_mem (pre := []) hp with e | e
      · rw [e]; exact Ne.symm hDst
      · exact hDn p (e o)
  clear F2 N2 p72 hou
  rintro h3 tk3 m3 nw3 F3 N3 ⟨nw7, Cu, cvs, cns, p73, hou, hcu, hci, hcl2, rfl, hCn⟩
  have hci0 : TEnd (IntsAre cvs cns) := ⟨hci⟩
  clear hci
  refine wpAny_execs_cons ?_
  refine wpAny_For (wpAny_mono (Q := fun v s' => TEnd (∃ (r : Addr) (h' : Heap) (tk' : Nat) (ta tb tc : Tok), v = .ref r ∧ s' = { s with heap := h', toks := tk' } ∧ IsRange h' r 1 ((S z).length : Int) 1 ta tb tc ∧ Fr h₀ L h' m3 ∧ News h₀ L h' ((Cu, LCg.lst cvs) :: nw7))) ?_ ?_ fun _ _ e => e) (fun _ => rfl)
  · obtain ⟨st, sc, ws, us, n2, o, oB, oc, D, od, ls, kvs, Tx, tys, tz, hdu, htx, rfl, hS, hIw, hul, doc, dB, hne, hst, hod, huv, hty, hDs, hDn, hls, hll⟩ := p73.led
    k_steps
    exact ⟨⟨_, _, _, _, _, _, rfl, rfl, by assumption, by assumption, by assumption⟩⟩
  rintro v s' ⟨⟨r, h4, tk4, ta, tb, tc, rfl, rfl, hR, F4, N4⟩⟩
  clear F3 N3
  have hn9 : ((S z).length : Int) - 1 = ((z.length - 1 : Nat) : Int) := by rw [hzl]; omega
  refine wpAny_pyIter_range hR (small_one (by omega) (by omega) (by omega) (by omega)) ?_
  have hI0 : h₀.get? h4.objs.size = none := by
    cases hc : h₀.get? h4.objs.size with
    | none => rfl
    | some o => exact absurd (Heap.lt_size (F4.keep _ _ hc)) (Nat.lt_irrefl _)
  have hIL : (h4.objs.size : Addr) ≠ L := Nat.ne_of_gt (F4.ns.lt)
  refine for_walk (I := h4.objs.size) (n := z.length - 1) (L := L) (LCg.range_walks rfl 1 (z.length - 1)) (fun i h st => ⟨_, st⟩) rfl rfl rfl
    (fun (i : Nat) (m' : Str → Option Value) (nw : List (Addr × Obj)) => ∃ nw7 y ty, P7 w L oA b nm bl sg ps tx z m' nw7 ∧ nw = (Cu, LCg.lst cvs) :: nw7 ∧ (∀ p ∈ nw7, p.1 ≠ Cu) ∧ m' (Str.ofString "out") = some (.str (S y) ty) ∧ m' (Str.ofString "cuts") = some (.ref Cu) ∧ UF.Fold y (z.take (1 + i)) ∧ y.length ≤ 4 * (1 + i))
    ?hst0 hIL hI0 (F4.push _) (N4.pushKeep _) (fun p hp => Nat.ne_of_lt (Heap.lt_size (N4 p hp).1)) ⟨nw7, [z0], tou, p73, rfl, hCn, hou, hcu, ?hfold, by simp⟩ ?turn ?done
  case hst0 =>
    show IsRangeIter _ _ _ _ _
    rw [show Builtin.Range.rangeSize 1 ((S z).length : Int) 1 = ((z.length - 1 : Nat) : Int) from by rw [rangeSize_nat]; omega]
    simpa using Heap.get?_push_size _ rfl
  case hfold =>
    rw [hz0]
    exact UF.Fold.one (hcl z0 (by rw [hz0]; exact .head _))
  case done =>
    rintro h tk m' nw htk ⟨nw7, y, ty, p7', rfl, hC, ho, hc, hf, hyl⟩ F5 N5
    have hz1 : z.take (1 + (z.length - 1)) = z := List.take_of_length_le (by omega)
    rw [hz1] at hf
    have N6 : News h₀ L h nw7 := fun p hp => N5 p (.tail _ hp)
    dsimp only
    have hy4 : y.length ≤ 400 := by omega
    obtain ⟨h9⟩ := hk y ty h tk m' nw7 hf hy4 ho F5 N6 p7'
    clear hk
    assumption
  case turn =>
    rintro i v h tk m' nw oI htk hi ⟨tk0, rfl⟩ ⟨nw7, y, ty, p7', rfl, hC, ho, hc, hf, hyl⟩ F5 N5 hnI
    obtain ⟨st, sc, ws, us, n2, o, oB, oc, D, od, ls, kvs, Tx, tys, tz, hdu, htx, rfl, hS, hIw, hul, doc, dB, hne, hst, hod, huv, hty, hDs, hDn, hls, hll⟩ := p7'.led
    replace F5 : Fr h₀ L h _ := F5
    replace N5 : News h₀ L h _ := N5
    have hyl9 : (S y).length ≤ 400 := by rw [S_len]; omega
    obtain ⟨zi, hzi⟩ : ∃ zi, z[1 + i]? = some zi := ⟨z[1 + i], List.getElem?_eq_getElem (by omega)⟩
    have hib : (1 : Int) + (i : Int) < ((S z).length : Int) := by omega
    k_steps
    refine TEnd.mk ?_
    refine in_list_ints (vs := cvs) ⟨_, (N5 (Cu, LCg.lst cvs) (by simp)).1, rfl, _, rfl⟩ hci0.out ?_
    generalize (cns.any fun x => x == 1 + (i : Int)) = hit
    have hit9 : Txt.item (S z) (1 + (i : Int)) = S [zi] := by
      have h9 := item_S (l := z) (i := 1 + i) hzi
      rw [Int.natCast_add] at h9
      exact h9
    have htake : z.take (1 + (i + 1)) = z.take (1 + i) ++ [zi] := take_snoc hzi
    have hzic := hcl zi (List.mem_of_getElem? hzi)
    have hDst : @Ne Nat D st := fun e => hDn (st, o) (by simp) e.symm
    have hCst : @Ne Nat Cu st := fun e => hC (st, o) (by simp) e.symm
    have hIst : @Ne Nat h4.objs.size st := fun e => hnI (st, o) (by simp) e.symm
    have h7set : ∀ (o2 : Obj) (_ : StObj sc o2) (m9 : Str → Option Value) (_ : ∀ x ∈ [Str.ofString "strict", Str.ofString "name", Str.ofString "blank", Str.ofString "places", Str.ofString "due", Str.ofString "text"], m9 x = m' x), P7 w L oA b nm bl sg ps tx z m9 ((D, od) :: LedA st o2 sc ws n2 L oA oB oc ((Tx, LCg.lst tys) :: ls)) := fun o2 hS2 m9 h9 => by
      have q7 := p7'.turn (m' := m9) h9
      exact { q7 with led := ⟨st, sc, ws, us, n2, o2, oB, oc, D, od, ls, kvs, Tx, tys, tz, (h9 _ (by simp)).trans hdu, (h9 _ (by simp)).trans htx, rfl, hS2, hIw, hul, doc, dB, hne, hst, hod, huv, hty, hDs, (fun p hp => by
          rcases led_mem (pre := []) hp with e | e
          · rw [e]; exact Ne.symm hDst
          · exact hDn p (e o)), hls, hll⟩ }
    have hCn9 : ∀ o2, ∀ p ∈ (D, od) :: LedA st o2 sc ws n2 L oA oB oc ((Tx, LCg.lst tys) :: ls), p.1 ≠ Cu := fun o2 p hp => by
      rcases led_mem (pre := [(D, od)]) hp with e | e
      · rw [e]; exact Ne.symm hCst
      · exact hC p (e o)
    have hIn9 : ∀ o2, ∀ p ∈ (Cu, LCg.lst cvs) :: (D, od) :: LedA st o2 sc ws n2 L oA oB oc ((Tx, LCg.lst tys) :: ls), p.1 ≠ h4.objs.size := fun o2 p hp => by
      rcases led_mem (pre := [(Cu, LCg.lst cvs), (D, od)]) hp with e | e
      · rw [e]; exact Ne.symm hIst
      · exact hnI p (e o)
    have hkeep : ∀ (va vb : Value), ∀ x ∈ [Str.ofString "strict", Str.ofString "name", Str.ofString "blank", Str.ofString "places", Str.ofString "due", Str.ofString "text"], (fun y' => if y' = Str.ofString "out" then some va else if y' = Str.ofString "k" then some vb else m' y') x = m' x := by
      intro va vb x hx
      have h1 : x ≠ Str.ofString "out" := fun e => absurd (e ▸ hx) (by decide +kernel)
      have h2 : x ≠ Str.ofString "k" := fun e => absurd (e ▸ hx) (by decide +kernel)
      simp only [if_neg h1, if_neg h2]
    dsimp only
    k_steps
    · rename_i l9 h9 F9 N9 lt9
      refine TEnd.mk ?_
      have hpre9 : ∀ p ∈ (l9, listOf #[Value.str (Str.ofString "\x0d\n ") tk, Value.str (Str.ofString "\n\t") (tk + 1)] 0) :: (h4.objs.size, oI) :: (Cu, LCg.lst cvs) :: (D, od) :: [], p.1 ≠ st := by
        intro p hp
        simp only [List.mem_cons, List.not_mem_nil, or_false] at hp
        rcases hp with e | e | e | e <;> rw [e]
        · exact Nat.ne_of_gt lt9.2.2.2.1
        · exact hIst
        · exact hCst
        · exact hDst
      refine next_c B F9 X N9 T (hUst_of hst _ ((Tx, LCg.lst tys) :: ls) o hpre9 hls) hS (.tail _ (.tail _ (.tail _ (.tail _ (.tail _ (.head _)))))) hIw hul hne (by decide) (by decide) (by decide) (by decide) ?_
      intro r2 t2 o2 h10 tk10 hr20 hr22 hS2 F10 N10
      dsimp only [List.cons_append, List.nil_append] at N10 ⊢
      k_steps
      refine TEnd.mk ?_
      refine menu_item N10 (.head _) (.cons _ _ (.cons _ _ .nil)) hr20 (by simpa using hr22) (by decide) ?_ (by with_unfolding_all rfl)
      intro x9 tx9 hx9
      obtain ⟨brk, rfl, hbrk⟩ : ∃ brk, x9 = S brk ∧ (brk = [13, 10, 32] ∨ brk = [10, 9]) := by
        simp only [List.mem_cons, List.not_mem_nil, or_false] at hx9
        rcases hx9 with e | e
        · exact ⟨[13, 10, 32], e.trans (by decide +kernel), .inl rfl⟩
        · exact ⟨[10, 9], e.trans (by decide +kernel), .inr rfl⟩
      have hbl9 : (S brk).length ≤ 3 := by rw [S_len]; rcases hbrk with rfl | rfl <;> decide
      k_steps
      have F12 := (by assumption : Fr h₀ L _ (fun y' => if y' = Str.ofString "out" then _ else if y' = Str.ofString "k" then _ else m' y'))
      have N12 := (by assumption : News h₀ L _ ((l9, _) :: (h4.objs.size, oI) :: _))
      rw [hit9, S_app, S_app] at F12
      refine FEnd.next F12 (fun p hp => N12 p (.tail _ hp)) (hIn9 o2) ⟨_, y ++ brk ++ [zi], _, h7set o2 hS2 _ (hkeep _ _), rfl, hCn9 o2, rfl, hc, ?_, ?_⟩
      · rw [htake, List.append_assoc]
        exact UF.Fold.app hf (by rcases hbrk with rfl | rfl; exact .cr (UF.Fold.one hzic); exact .lf (UF.Fold.one hzic))
      · simp only [List.length_append, List.length_singleton]
        have : brk.length ≤ 3 := by rcases hbrk with rfl | rfl <;> decide
        omega
    · have F12 := (by assumption : Fr h₀ L _ (fun y' => if y' = Str.ofString "out" then _ else if y' = Str.ofString "k" then _ else m' y'))
      rw [hit9, show Str.ofString "" = S [] from by decide +kernel, S_app, S_app] at F12
      refine FEnd.next F12 (by assumption) (hIn9 o) ⟨_, y ++ [] ++ [zi], _, h7set o hS _ (hkeep _ _), rfl, hCn9 o, rfl, hc, ?_, ?_⟩
      · rw [htake, List.append_nil]
        exact UF.Fold.app hf (UF.Fold.one hzic)
      · simp only [List.length_append, List.length_singleton, List.length_nil]
        omega
end LawD
end Mine
end
/-! part Xcn -/
section
theorem Mine.startXcn : True := by
  w_top off
  exact trivial
open PySem PySem.W PyProof.Rows PySem.Calls PySem.Spec
set_option Elab.async false
set_option pp.deepTerms false
set_option pp.maxSteps 6000
set_option maxRecDepth 100000
namespace Mine
local macro_rules | `(tactic| x_close) => `(tactic| exact ⟨_, _, _, _, rfl, rfl, mem_old (by assumption), (mem_at (by assumption) (.head _)).2, (mem_at (by assumption) (.head _)).1, rfl⟩)
theorem x_supC {w : World} {E : Value → Shared → Prop} {s : Shared} (X : (K0 w.params).In s.heap) :
    wpAny (model PySem.Challenge.rw_bl0007_01.row.prog w) A9 (PySem.call (.type "super") [.ref 395, .ref 395]) (Made s fun o => o = { cls := .type "super", dict := none, data := .fields #[.ref 395, .ref 395, .ref 395], slots := #[] }) E s := by
  unfold PySem.call Made
  x_run
local macro_rules | `(tactic| x_close) => `(tactic| exact ⟨_, _, rfl, rfl, mem_old (by assumption)⟩)
theorem ty_strnew : typeOf (.builtin "str.__new__") = pure (.type "builtin_function_or_method") := by show builtinType _ = _; rw [builtinType_eq_fast]; kernel_rfl
theorem ng_bfm : typeLookup (.type "builtin_function_or_method") "__get__" = pure none := by rw [typeLookup_type, builtinLookup_eq_fast]; kernel_rfl
theorem super_gaN {prog : Program} {w : World} {A : Around} {K : Frag} {E : Value → Shared → Prop} {h : Heap} {g : Array GenState} {d : Drawn} {t : Nat} {os : OsState} {so C : Addr} {l₀ l : List Value} {tk : Tok} {Q : Fin → Shared → Prop}
    (hso : h.get? so = some { cls := .type "super", dict := none, data := .fields #[.ref C, .ref C, .ref C], slots := #[] }) (hno : Looks (model prog w) h (opaqueClassAbove (.ref C)) none)
    (hC : Looks (model prog w) h (mroOf (.ref C)) l₀) (hl : (l₀.dropWhile (· != .ref C)).drop 1 = l) (X : K.In h)
    (hf : alongIn K "__new__" l = some (some (.builtin "str.__new__")))
    (hq : Q (.done (.ret (.builtin "str.__new__"))) ⟨h, g, d, t, os⟩) :
    wpAny (model prog w) A (Builtin.«super.__getattribute__» ⟨[.ref so, .str "__new__" tk], []⟩) Q E ⟨h, g, d, t, os⟩ := by
  have hn : (("__new__" : Str) == ("__class__" : Str)) = false := by decide
  have hTf : (⟨h, g, d, t, os⟩ : Shared).TypeIs (.builtin "str.__new__") "builtin_function_or_method" := ty_strnew
  have hdt : ({ cls := .type "super", dict := none, data := .fields #[.ref C, .ref C, .ref C], slots := #[] } : Obj).data = .fields #[.ref C, .ref C, .ref C] := rfl
  have f0 : (#[.ref C, .ref C, .ref C] : Array Value)[0]? = some (.ref C) := rfl
  have f1 : (#[.ref C, .ref C, .ref C] : Array Value)[1]? = some (.ref C) := rfl
  have f2 : (#[.ref C, .ref C, .ref C] : Array Value)[2]? = some (.ref C) := rfl
  unfold Builtin.«super.__getattribute__»
  repeat (first
    | (with_reducible refine wpAny_field hso hdt f0 ?_) | (with_reducible refine wpAny_field hso hdt f1 ?_) | (with_reducible refine wpAny_field hso hdt f2 ?_)
    | (with_reducible refine ks_wpAny_notOpaque hno ?_)
    | (with_reducible refine Looks.at hC ?_; rw [hl])
    | (refine ks_forIn_along X (fun _ _ => rfl) rfl ?_ hf)
    | (with_reducible refine wpAny_typeOf hTf ?_)
    | (with_reducible refine wpAny_of_eq ng_bfm ?_)
    | (with_reducible refine wpAny_of_eq (show handedOut (.builtin "str.__new__") = pure (.builtin "str.__new__") from by first | rfl | kernel_rfl) ?_)
    | (with_reducible refine ⟨_, rfl, ?_⟩)
    | (simp only [hn, Bool.or_false, Bool.false_eq_true, if_false])
    | wp_step
    | dsimp only)
  all_goals exact hq
theorem supC_getm {prog : Program} {w : World} {A : Around} {K : Frag} {E : Value → Shared → Prop} {s : Shared} {so C : Addr} {pl : Sem Bool} {l₀ l : List Value} {Q : Value × List Value → Shared → Prop}
    (hs : s.heap.get? so = some { cls := .type "super", dict := none, data := .fields #[.ref C, .ref C, .ref C], slots := #[] }) (hno : Looks (model prog w) s.heap (opaqueClassAbove (.ref C)) none)
    (hC : Looks (model prog w) s.heap (mroOf (.ref C)) l₀) (hl : (l₀.dropWhile (· != .ref C)).drop 1 = l) (X : K.In s.heap)
    (hf : alongIn K "__new__" l = some (some (.builtin "str.__new__")))
    (hq : Q (.builtin "str.__new__", []) { s with toks := s.toks + 1 }) :
    wpAny (model prog w) A (getMethod (.ref so) "__new__" pl) Q E s := by
  have hlk := F.ks_slot_super_ga.lookup
  have hcan := F.ks_canon_super_ga
  obtain ⟨h, g, d, t, os⟩ := s
  have hT : ∀ t', (⟨h, g, d, t', os⟩ : Shared).TypeIs (.ref so) "super" := fun _ => ⟨_, hs, rfl⟩
  unfold getMethod
  refine wpAny_bind (wpAny_specialOf (hT _) hlk ?_)
  show wpAny _ _ (if (Manifest.canonical "super.__getattribute__" != "object.__getattribute__") = true then _ else _) _ _ _
  rw [if_pos hcan]
  unfold getAttr getAttrBy
  refine wpAny_bind (wpAny_bind (wpAny_mkText (wpAny_holding (wpAny_bind (wpAny_typeOf (hT _) (wpAny_bind (wpAny_of_eq hlk ?_)))))))
  show wpAny _ _ (getAttrByItsOwn (.ref so) (.str (Str.ofString "__new__") t) (.type "super") (.builtin "super.__getattribute__") true false) _ _ _
  unfold getAttrByItsOwn hookBefore callGetattribute boundAndCalled
  refine wpAny_bind (wpAny_of_eq (show (if onTheHeap (.type "super") then typeLookup (.type "super") "__getattr__" else pure none) = pure none from rfl) ?_)
  refine wpAny_bind (wpAny_attempt (wpAny_holding ?_))
  show wpAny _ _ (bindSpecial (.builtin "super.__getattribute__") (.ref so) >>= _) _ _ _
  refine wpAny_bind (wpAny_of_eq (F.ks_slot_super_ga.bind _) ?_)
  refine wpAny_mono (Q := fun v s' => v = .builtin "str.__new__" ∧ s' = ⟨h, g, d, t + 1, os⟩) (E := fun _ _ => False)
    (wpAny_call_entry F.ks_slot_super_ga (hT _) F.ks_entry_super_ga (super_gaN hs hno hC hl X hf ⟨_, rfl, rfl, rfl⟩) (F.ks_gaArgs_super _ _)) (fun v s' hv => ?_) fun _ _ z => z.elim
  obtain ⟨rfl, rfl⟩ := hv
  exact wpAny_of_eq (a := .builtin "str.__new__") (by first | rfl | kernel_rfl) (wpAny_pure hq)
end Mine
namespace Mine
/-- a Contentline -/
abbrev clob (Dx : Addr) (y : Str) (t : Tok) (sl : Array (Option Value)) : Obj := { cls := .ref 395, dict := some Dx, data := .prim (.str y t), slots := sl }
def NewC (s : Shared) (y : Str) (v : Value) (s' : Shared) : Prop := ∃ q d t' h' tk, v = .ref q ∧ s' = { s with heap := h', toks := tk } ∧ (∀ b o, s.heap.get? b = some o → h'.get? b = some o) ∧ s.heap.get? q = none ∧ s.heap.get? d = none ∧ h'.get? q = some (clob d y t' #[]) ∧ h'.get? d = some dict0
local macro_rules | `(tactic| x_close) => `(tactic| exact ⟨_, _, _, _, _, rfl, rfl, mem_old (by assumption), (mem_at (by assumption) (.head _)).2, (mem_at (by assumption) (.tail _ (.head _))).2, (mem_at (by assumption) (.head _)).1, (mem_at (by assumption) (.tail _ (.head _))).1⟩)
theorem x_strnew {w : World} {E : Value → Shared → Prop} {s : Shared} {y : Str} {t : Tok} (hy : y.length ≤ 1000) (X : (K0 w.params).In s.heap) :
    wpAny (model PySem.Challenge.rw_bl0007_01.row.prog w) A9 (PySem.call (.builtin "str.__new__") [.ref 395, .str y t]) (NewC s y) E s := by
  unfold PySem.call NewC
  x_run
end Mine
end
/-! part Cnew -/
section
theorem Mine.startCnew : True := by
  w_top off
  exact trivial
local macro_rules | `(tactic| walk_at "pad0") => `(tactic| skip)
open PySem PySem.W PyProof.Rows PySem.Calls PySem.Spec
set_option Elab.async false
set_option maxRecDepth 100000
namespace Mine
section Uni2
local macro_rules | `(tactic| k_room) => `(tactic| ktr_room)
local macro_rules | `(tactic| k_units) => `(tactic| ktr_units)
local macro_rules | `(tactic| k_all) => `(tactic| assumption)
set_option pp.deepTerms false
set_option pp.maxSteps 3000
set_option maxHeartbeats 4000000 in
theorem uni2_w {w : World} {mean : ExcName → Option Value} {mg mb : Str → Option Value} {A : Around} {s : Shared} {Q E : Value → Shared → Prop} {x e : Str} {t te : Tok}
    (X : (K0 w.params).In s.heap) (T : Top hd.view_39 loos mean mg mb s.heap) (hd1 : A.depth < recursionLimit)
    (hret : ∀ h' tk', (∀ b o, s.heap.get? b = some o → h'.get? b = some o) → Q (.str x t) { s with heap := h', toks := tk' }) :
    wpAny (model PySem.Challenge.rw_bl0007_01.row.prog w) A (PySem.call (.ref 46) [.str x t] [(Str.ofString "encoding", .str e te)]) Q E s := by
  revert X; k_fill; intro X
  refine wpAny_call ?_
  refine' plain_def (binds := [(Str.ofString "value", .str x t), (Str.ofString "encoding", .str e te)]) X T ?ho ?hcd ?hroom ?hb ?hl ?_ ?c2 ?c3 ?c4 ?c5
  case ho => k_is
  case hcd => k_is
  case hroom => assumption
  case hb => exact binds_K (by k_in) rfl (by k_is) rfl rfl rfl
  case hl => exact locs rfl
  case c2 => rfl
  case c3 => rfl
  case c4 => rfl
  case c5 => decide
  intro L' h₁ tk0 htk F' N'
  dsimp only
  k_steps
  exact hret _ _ F'.keep
end Uni2
section
variable {prog : Program} {w : World} {A : Around} {E : Value → Shared → Prop} {K : Frag} {h₀ : Heap} {L : Addr} {m : Str → Option Value} {news : List (Addr × Obj)}
theorem supS_getm {s : Shared} {so C : Addr} {pl : Sem Bool} {Q : Value × List Value → Shared → Prop}
    (hs : s.heap.get? so = some { cls := .type "super", dict := none, data := .fields #[.ref C, .ref C, .ref C], slots := #[] }) (X : K.In s.heap) (ho : nsIn K cStatics "thirdparty.any" = some none)
    (hm : ks_superIn K C C "__new__" = some (some (.builtin "str.__new__")))
    (hq : Q (.builtin "str.__new__", []) { s with toks := s.toks + 1 }) :
    wpAny (model prog w) A (getMethod (.ref so) "__new__" pl) Q E s := by
  cases hc : clsIn K C with
  | none => unfold ks_superIn at hm; rw [hc] at hm; cases hm
  | some cd =>
    unfold ks_superIn at hm
    rw [hc] at hm
    exact supC_getm hs (looks_opaque X ho) (l₀ := cd.mro) (fun A Q E s k q => wpAny_bind ((looks_clsIn X hc) A _ E s k (wpAny_pure q))) rfl X hm hq
theorem node_S {s : Shared} {mg mb : Str → Option Value} {p : Program} {loose : List Str} {mean : ExcName → Option Value} {C D f cc cda : Addr} {body : List Stmt} {q : Str} {scope : Scope} {cells : List (Str × Addr)} {p0 p1 : Pos} {attr : Str} {whole : Sem Value} {fd : FuncData} {ar : Arg} {vs : Array Value} {file : Str} {tf : Tok} {oc ccl cl : Value} {od cdd cld : Option Addr} {osl ccs csl : Array (Option Value)} {cdD : ClassData} {Q : Value → Shared → Prop}
    (F : Fr h₀ L s.heap m) (X₀ : K.In h₀) (T : Top p loose mean mg mb h₀)
    (hf : K.lookup f = some ⟨oc, od, .func fd, osl⟩) (hp : (fd.params.posonlyargs ++ fd.params.args).head? = some ar) (hv : m ar.arg = some (.ref C))
    (hcode : K.lookup cda = some ⟨ccl, cdd, .fields vs, ccs⟩) (hvs : vs[2]? = some (.str file tf)) (hfile : ((prog.main.file : Str) == file) = true)
    (hcl : cells.lookup ("__class__" : Str) = some cc) (hcell : K.lookup cc = some ⟨cl, cld, .cell (some (.ref D)), csl⟩) (hD : clsIn K D = some cdD) (hsuper : nsIn K mainGlobals "super" = some none)
    (hat : (attr == ("__class__" : Str)) = false) (hks : scope.names.lookup ("super" : Str) = some .globalImplicit) (hkc : scope.names.lookup ("__class__" : Str) = some .free) (hka : scope.names.lookup ar.arg = some .local) (hk : scope.kind = .function)
    (htop : (prog.main.scope.names.lookup ("super" : Str)).isSome = false) (hboot : bootBuiltins "super" = some (.type "super"))
    (h : wpAny (model prog w) A (PySem.call (.type "super") [.ref D, .ref C]) Q E s) :
    PySem.wpAt (model prog w) A (.func body (envX q scope L f (.ref cda) cells)) (attributeBase (.Call (.Name "super" p0) [] [] p1) attr (envX q scope L f (.ref cda) cells) whole) Q E s := by
  have X : K.In s.heap := X₀.keeps F.keep
  obtain ⟨hh, g, d, t, os⟩ := s
  obtain ⟨oD, hD1, hD2⟩ : ∃ oD, hh.get? D = some oD ∧ oD.data = .cls cdD := by
    unfold clsIn at hD
    split at hD
    · rename_i c d cd' sl ho
      cases hD
      exact ⟨_, X _ _ ho, rfl⟩
    · cases hD
  refine ks_wpAt_super_base (env := envX q scope L f (.ref cda) cells) hks hkc hat rfl (X _ _ hf) rfl hp rfl (X _ _ hcode) rfl hvs hfile htop ?_
  refine ks_loadName_global hk hks (loadGlobal_builtin (env := envX q scope L f (.ref cda) cells) (T.g.keeps F.keep) (mg_none_of X₀ T.g hsuper) (T.b.keeps F.keep) ((T.builtins _ (by decide +kernel)).trans hboot) ⟨rfl, ?_⟩)
  refine wpAny_loadName_free hk hkc hcl ⟨_, X _ _ hcell, rfl⟩ ?_
  refine wpAny_loadName_local hk hka F.ns hv ?_
  exact ks_wpAny_isType_cls hD1 hD2 ⟨rfl, h⟩
end
end Mine
end
/-! part Cset -/
section
theorem Mine.startCset : True := by
  w_top off
  exact trivial
set_option maxRecDepth 100000
set_option maxHeartbeats 1000000
set_option Elab.async false
open PySem PySem.W PySem.Calls PyProof.Rows PySem.Spec Builtin Builtin.ObjectAttr Builtin.Getset_descriptor
namespace Mine
/-! a slot of a text's subclass is set -/
theorem refuse_str (self : Value) (C : Addr) : refuseLoop self "__setattr__" [.ref C, .type "str", .type "object"] = pure () := by
  rw [refuseLoop_ref]
  first | rfl | kernel_rfl
section
variable {prog : Program} {w : World} {A : Around} {s : Shared} {K : Frag} {x C : Addr} {R : Result → Shared → Prop} {h₀ : Heap} {L : Addr} {m : Str → Option Value} {news : List (Addr × Obj)}
theorem osa_str {ox : Obj} {od : Option Obj} {name : Str} {tk : Tok} {v : Value} {r : Option Value} {cd : ClassData} (X : K.In s.heap) (I : InstAt s.heap x ox C od) (hc : clsIn K C = some cd) (hmro : cd.mro = [.ref C, .type "str", .type "object"]) (ht : takerIn K C name = some r)
    (h : ∀ b, wpAny (model prog w) A.in1 (match r with | some a => setByDescriptor a (.ref x) v | none => storeInOwnDict (.ref x) (.ref C) (.str name tk) name v b)
      (fun fin s' => match fin with | .done f => R (.ok f) s' | .again c' => c'.quiet = true ∧ codeAny (model prog w) A c' R s') (fun e s' => R (.error e) s') s) :
    codeAny (model prog w) A (.call (.builtin "object.__setattr__") ⟨[.ref x, .str name tk, v], []⟩) R s := by
  have SF := PySem.F.store_object
  have sub : Looks (model prog w) s.heap (isInstance (.ref x) (.type "object")) true := I.type.andThen (looks_mroIn X (by unfold mroIn; rw [hc, Option.bind_some, if_neg (by rw [hmro]; simp), hmro]; simp))
  refine codeAny_call_builtin SF.slot.plain SF.entry (@check_slot (model prog w) _ _ s "object.__setattr__" "object" "__setattr__" (.ref x) [.str name tk, v] [] _ SF.kind SF.split sub (SF.args (.ref x) (.str name tk) v) ?_)
  obtain ⟨attr, ha, hr⟩ := Option.bind_eq_some_iff.mp ht
  have hm : Looks (model prog w) s.heap (mroOf (.ref C)) cd.mro := (looks_clsIn X hc).andThen .now
  have L3 : Looks (model prog w) s.heap (storeTaker? attr) r := by
    cases attr with
    | none => cases hr; exact .now
    | some a =>
      obtain ⟨b, hb, rfl⟩ := Option.map_eq_some_iff.mp hr
      refine (looks_takesIn X hb).andThen ?_
      cases b <;> exact .now
  rw [osa_eq, refuse_eq]
  refine wpAny_bind (wpAny_bind (I.type.here (wpAny_bind (hm.here ?_))))
  rw [hmro, refuse_str]
  refine wpAny_pure (wpAny_bind (I.type.here (wpAny_bind ((looks_findIn X ha).here (wpAny_bind (L3.here ?_))))))
  exact h _
theorem osa_slot {ox : Obj} {od : Option Obj} {name : Str} {tk : Tok} {v : Value} {p : Addr} {T i : String} {cd : ClassData} (S : Slot T "__set__" i) (X : K.In s.heap) (I : InstAt s.heap x ox C od) (hc : clsIn K C = some cd) (hmro : cd.mro = [.ref C, .type "str", .type "object"]) (ht : takerIn K C name = some (some (.ref p)))
    (hT : typeIn K (.ref p) = some (.type T)) (h : codeAny (model prog w) A.in1 (.call (.builtin i) ⟨[.ref p, .ref x, v], []⟩) (fun r s' => match r with | .ok (.ret _) => R (.ok (.ret .none)) s' | .ok _ => False | .error e => R (.error e) s') s) :
    codeAny (model prog w) A (.call (.builtin "object.__setattr__") ⟨[.ref x, .str name tk, v], []⟩) R s := by
  refine osa_str X I hc hmro ht fun _ => ?_
  refine wpAny_bind (wpAny_rule (wpAny_bind (wpAny_holding (wpAny_bind (wpAny_bind ((looks_typeIn X hT).here ((Looks.of_pure S.lookup).here (wpAny_holding ?_))))))))
  rw [S.bind]
  refine wpAny_bind (wpAny_pure (wpAny_bind (wpAny_call (codeAny_mono h fun r s' z => ?_))))
  rcases r with e | (v | _ | _ | _) <;> first | exact z | exact wpAny_pure (wpAny_pure z)
/-- x.name = v, name a slot -/
theorem slot_str {E : Value → Shared → Prop} {ox ox' : Obj} {od : Option Obj} {name : Str} {v : Value} {p i : Nat} {cd : ClassData} {pre post : List (Addr × Obj)} {Q : Unit → Shared → Prop} (F : Fr h₀ L s.heap m) (N : News h₀ L s.heap (pre ++ (x, ox) :: post)) (X : K.In s.heap) (I : InstAt s.heap x ox C od)
    (hc : clsIn K C = some cd) (hmro : cd.mro = [.ref C, .type "str", .type "object"]) (hs : findIn K (.ref C) "__setattr__" = some (some (.builtin "object.__setattr__"))) (ht : takerIn K C name = some (some (.ref p))) (hT : typeIn K (.ref p) = some (.type "member_descriptor"))
    (hp : slotIn K p C = some i) (hi : i < 1000) (h1 : ∀ p ∈ pre, p.1 ≠ x) (h2 : ∀ p ∈ post, p.1 ≠ x)
    (e : { ox with slots := (ox.slots ++ Array.replicate (i + 1 - ox.slots.size) none).setIfInBounds i (some v) } = ox') (hf : ox'.isFreed = false)
    (h : ∀ h', Fr h₀ L h' m → News h₀ L h' (pre ++ (x, ox') :: post) → Q () { s with heap := h', toks := s.toks + 1 }) : wpAny (model prog w) A (setAttr (.ref x) name v) Q E s := by
  refine set_plain X I hs ?_
  refine osa_slot (s := { s with toks := s.toks + 1 }) KF.slot_mset X I hc hmro ht hT ?_
  exact slot_set (s := { s with toks := s.toks + 1 }) F N X I hp hi h1 h2 e hf fun h' F' N' => h h' F' N'
end
end Mine
end
/-! part Cmk -/
section
theorem Mine.startCmk : True := by
  w_top off
  exact trivial
local macro_rules | `(tactic| walk_at "pad0") => `(tactic| skip)
local macro_rules | `(tactic| walk_at "pad1") => `(tactic| skip)
open PySem PySem.W PyProof.Rows PySem.Calls PySem.Spec
set_option Elab.async false
set_option maxRecDepth 100000
namespace Mine
theorem newC_fr {h₀ : Heap} {L : Addr} {m : Str → Option Value} {s : Shared} {news : List (Addr × Obj)} {y : Str} {v : Value} {s' : Shared} (F : Fr h₀ L s.heap m) (N : News h₀ L s.heap news) (h : NewC s y v s') :
    ∃ D Dd t' h' tk, v = .ref D ∧ s' = { s with heap := h', toks := tk } ∧ (∀ b o, s.heap.get? b = some o → h'.get? b = some o) ∧ Fr h₀ L h' m ∧ News h₀ L h' ((D, clob Dd y t' #[]) :: (Dd, dict0) :: news) ∧ (∀ p ∈ (Dd, dict0) :: news, p.1 ≠ D) ∧ (∀ p ∈ news, p.1 ≠ Dd) := by
  obtain ⟨q, d, t', h', tk, rfl, rfl, k, hn, hn2, hq, hd⟩ := h
  have fresh : ∀ a o, s.heap.get? a = none → h'.get? a = some o → a ≠ L ∧ h₀.get? a = none := fun a o e _ => by
    constructor
    · intro q
      obtain ⟨ol, _, _, hol, _⟩ := F.ns
      rw [← q, e] at hol; cases hol
    · cases z : h₀.get? a with
      | none => rfl
      | some o' => have := F.keep a o' z; rw [e] at this; cases this
  have hne : ∀ a, s.heap.get? a = none → ∀ p ∈ news, p.1 ≠ a := fun a e p hm q => by
    have := (N p hm).1
    rw [q, e] at this; cases this
  refine ⟨q, d, t', h', tk, rfl, rfl, k, F.keeps k, ?_, ?_, hne d hn2⟩
  · intro p hm
    rcases List.mem_cons.mp hm with rfl | hm
    · exact ⟨hq, fresh _ _ hn hq⟩
    · rcases List.mem_cons.mp hm with rfl | hm
      · exact ⟨hd, fresh _ _ hn2 hd⟩
      · exact ⟨k _ _ (N p hm).1, (N p hm).2⟩
  · intro p hm
    rcases List.mem_cons.mp hm with rfl | hm
    · intro e
      dsimp only at e
      rw [e, hq] at hd
      cases hd
    · exact hne q hn p hm
section Cnew
open DS
local macro_rules | `(tactic| walk_at "call ref") => `(tactic| refine TEnd.out ?_)
local macro_rules | `(tactic| walk_at "wpAt") => `(tactic| ((with_reducible show PySem.wpAt _ _ _ (execs (Stmt.Assign _ (Expr.Call (Expr.Attribute _ _ _) _ _ _) _ :: _) _) _ _ _); refine TEnd.out ?_))
local macro_rules | `(tactic| k_room) => `(tactic| ktr_room)
local macro_rules | `(tactic| k_units) => `(tactic| ktr_units)
local macro_rules | `(tactic| k_all) => `(tactic| assumption)
set_option pp.deepTerms false
set_option pp.maxSteps 3000
set_option maxHeartbeats 4000000 in
theorem cnew_w {w : World} {mean : ExcName → Option Value} {mg mb : Str → Option Value} {A : Around} {s : Shared} {Q E : Value → Shared → Prop} {h₀ : Heap} {L : Addr} {m : Str → Option Value} {y : Str} {t : Tok} {b : Bool} {news : List (Addr × Obj)}
    (F : Fr h₀ L s.heap m) (X : (K0 w.params).In h₀) (N : News h₀ L s.heap news) (T : Top hd.view_39 loos mean mg mb h₀) (hdp : A.depth ≤ 800) (hun : A.units ≤ 8000) (hh : A.handled = none) (hy : y.length ≤ 1000) (hnl : (Builtin.Str.occurrences y (Str.ofString "\n") 0 y.length 1).isEmpty = true)
    (hret : ∀ x Dx t' h' tk, Fr h₀ L h' m → News h₀ L h' ((x, clob Dx y t' #[some (.bool b)]) :: (Dx, dict0) :: news) → (∀ p ∈ (Dx, dict0) :: news, p.1 ≠ x) → (∀ p ∈ news, p.1 ≠ Dx) → Q (.ref x) { s with heap := h', toks := tk }) :
    wpAny (model PySem.Challenge.rw_bl0007_01.row.prog w) A (PySem.call (.ref 341) [.ref 395, .str y t] [(Str.ofString "strict", .bool b)]) Q E s := by
  have hd1 : A.depth + 20 < recursionLimit := by have : recursionLimit = 1000 := rfl; omega
  revert X; k_fill; intro X
  refine wpAny_call ?_
  refine' def_kAt (binds := [(Str.ofString "cls", .ref 395), (Str.ofString "value", .str y t), (Str.ofString "strict", .bool b), (Str.ofString "encoding", .str (Str.ofString "utf-8") 291)]) F X N T ?ho ?hcd ?hroom ?hb ?hl ?_ ?c2 ?c3 ?c4 ?c5
  case ho => k_is
  case hcd => k_is
  case hroom => omega
  case hb => first | exact BindsTo.of_eq rfl | exact binds_K (X.keeps F.keep) rfl (by k_is) rfl rfl rfl
  case hl => exact locs rfl
  case c2 => rfl
  case c3 => rfl
  case c4 => rfl
  case c5 => decide
  intro g1 L' h₁ tk0 htk FG F' N' X' T' hlt
  dsimp only
  k_steps
  refine TEnd.mk ?_
  refine uni2_w (X'.keeps F'.keep) (T'.keeps F'.keep) (by show A.depth + 1 < _; omega) ?_
  intro h2 tk2 hk2
  have F2 := F'.keeps hk2
  have N2 := N'.grown hk2
  clear F' N'
  dsimp only
  k_steps
  refine TEnd.mk ?_
  rename_i h3 F3 N3
  refine ks_wpAt_execs_cons ?_
  refine ks_wpAt_Assign_Name ?_
  refine ks_wpAt_MethodCall ?_
  refine node_S (C := 395) (D := 395) (cdD := _) F3 X' T' (by k_is) rfl rfl (by k_is) (by rfl) (by first | rfl | decide +kernel) (by rfl) (by k_is) (by k_is) (by k_is) (by decide) (by rfl) (by rfl) (by rfl) (by rfl) (by decide +kernel) (by first | boot_by_name | rfl | kernel_rfl) ?_
  refine up9 hh (by show A.depth + 1 ≤ 900; omega) (by show A.units + 3 ≤ 9000; omega) (wpAny_mono (x_supC (X'.keeps F3.keep)) (fun v s' hv => ?_) fun _ _ z => z)
  obtain ⟨so, os, h4, tk4, rfl, rfl, rfl, F4, N4, hne4⟩ := made_fr F3 N3 hv
  refine supS_getm (C := 395) (N4 _ (.head _)).1 (X'.keeps F4.keep) (by k_is) (by ks_is) ?_
  dsimp only
  k_steps
  refine up9 hh (by show A.depth + 1 ≤ 900; omega) (by show A.units + 3 ≤ 9000; omega) (wpAny_mono (x_strnew hy (X'.keeps F4.keep)) (fun v s' hv => ?_) fun _ _ z => z)
  obtain ⟨x, Dx, t5, h5, tk5, rfl, rfl, k5, F5, N5, hne5, hne6⟩ := newC_fr F4 N4 hv
  k_steps
  rename_i h6 F6 N6
  refine slot_str (pre := []) (x := x) (C := 395) (od := some dict0) (ox := clob Dx y t5 #[]) (ox' := clob Dx y t5 #[some (.bool b)]) F6 N6 (X'.keeps F6.keep) ⟨(N6 _ (.head _)).1, rfl, rfl, (N6 _ (.tail _ (.head _))).1⟩ (by k_is) (by rfl) (by k_is) (by k_is) (by k_is) (by k_is) (by decide) (fun _ h => nomatch h) hne5 (by rfl) (by rfl) ?_
  intro h7 F7 N7
  dsimp only
  k_steps
  rename_i F8 N8 _ _
  exact hret x Dx t5 _ _ F8 (fun p hp => N8 p (by
    simp only [List.nil_append, List.mem_cons] at hp ⊢
    rcases hp with h | h | h <;> simp [h])) (fun p hp => hne5 p (by
    simp only [List.mem_cons] at hp ⊢
    rcases hp with h | h <;> simp [h])) (fun p hp => hne6 p (.tail _ hp))
end Cnew
end Mine
end
/-! part Cmk2 -/
section
theorem Mine.startCmk2 : True := by
  w_top off
  exact trivial
set_option maxRecDepth 100000
set_option Elab.async false
open PySem PySem.W PySem.Calls PyProof.Rows PySem.Spec Builtin Builtin.ObjectAttr Builtin.Getset_descriptor
namespace Mine
/-! the call of a class that has its own __new__ and no __init__ -/
section
variable {prog : Program} {w : World} {A : Around} {C : Addr} {R : Result → Shared → Prop} {s : Shared}
structure MakesS (M : Model) (h : Heap) (C : Addr) : Prop where
  obj : ∃ oc od cd sl, h.get? C = some ⟨oc, od, .cls cd, sl⟩ ∧ cd.mro.isEmpty = false
  made : Looks M h (Bind.madeBy (.ref C)) none
  self : Looks M h (isSubtype (.ref C) (.ref C)) true
  call : Looks M h (specialOf (.ref C) "__call__") (some (.builtin "type.__call__"))
  typ : Looks M h (isInstance (.ref C) (.type "type")) true
theorem makesS_of {K : Frag} {M : Model} {h : Heap} (X : K.In h) {C : Addr} {oc : Value} {od : Option Addr} {cd : ClassData} {sl : Array (Option Value)} (ho : K.lookup C = some ⟨oc, od, .cls cd, sl⟩) (e3 : (sl.toList[4]?).join = some .none) (e4 : cd.mro.isEmpty = false) (e5 : cd.mro.contains (.ref C) = true)
    (e7 : specialIn K (.ref C) "__call__" = some (some (.builtin "type.__call__"))) (e8 : instIn K (.ref C) (.type "type") = some true) : MakesS M h C := by
  have hc : clsIn K C = some cd := by unfold clsIn; rw [ho]
  have hm : Looks M h (mroOf (.ref C)) cd.mro := (looks_clsIn X hc).andThen .now
  obtain ⟨c, l, hl⟩ : ∃ c l, cd.mro = c :: l := by cases q : cd.mro with | nil => rw [q] at e4; cases e4 | cons c l => exact ⟨c, l, rfl⟩
  have made : Looks M h (Bind.madeBy (.ref C)) none := by
    intro A Q E s k q
    unfold Bind.madeBy
    refine wpAny_bind (hm A _ E s k ?_)
    rw [hl, List.forIn_cons]
    refine wpAny_bind (wpAny_bind (wpAny_bind (wpAny_bind (wpAny_loadPart (k _ _ (X _ _ ho)) (wpAny_pure ?_)))))
    dsimp only
    rw [← Array.getElem?_toList, e3]
    exact wpAny_pure (wpAny_pure (wpAny_pure q))
  refine ⟨⟨oc, od, cd, sl, X _ _ ho, e4⟩, made, looks_mroIn X ?_, looks_specialIn X e7, looks_instIn X e8⟩
  unfold mroIn; rw [hc, Option.bind_some, if_neg (by rw [e4]; decide), e5]
theorem makeS_core {rest : List Value} {kw : List (Str × Value)} {fN : Addr} (Y : MakesS (model prog w) s.heap C)
    (hq : wpAny (model prog w) (A.under (.builtin "type.__call__" ⟨.ref C :: rest, kw⟩)) (getAttr (.ref C) "__new__") (fun v s' => v = .ref fN ∧
      wpAny (model prog w) (A.under (.builtin "type.__call__" ⟨.ref C :: rest, kw⟩)) (PySem.call (.ref fN) (.ref C :: rest) kw) (fun v s' => ∃ x o, v = .ref x ∧ s'.heap.get? x = some o ∧ o.cls = .ref C ∧ (Looks (model prog w) s'.heap (isSubtype (.ref C) (.ref C)) true ∧ Looks (model prog w) s'.heap (typeLookup (.ref C) "__init__") (some (.builtin "object.__init__"))) ∧
      wpAny (model prog w) (A.under (.builtin "type.__call__" ⟨.ref C :: rest, kw⟩)) (PySem.call (.builtin "object.__init__") (.ref x :: rest) kw) (fun r s'' => r = .none ∧ R (.ok (.ret (.ref x))) s'') (fun e s'' => R (.error e) s'') s') (fun e s' => R (.error e) s') s') (fun e s' => R (.error e) s') s) :
    codeAny (model prog w) A (.call (.ref C) ⟨rest, kw⟩) R s := by
  obtain ⟨⟨oc, od, cd, sl, hC, e4⟩, made, self, call, typ⟩ := Y
  obtain ⟨h, g, d, t, os⟩ := s
  refine codeAny_of_tree ?_
  show wpAny _ _ (callAny (.ref C) _) _ _ _
  refine nd_load hC ?_
  show wpAny _ _ (callAny.viaDunder (.ref C) _) _ _ _
  unfold callAny.viaDunder
  refine wpAny_bind (call.at ?_)
  dsimp only
  rw [tc_bind]
  refine wpAny_bind (wpAny_pure (wpAny_bind (wpAny_pure ?_)))
  refine wpAny_pure (a := Fin.again (.call (.builtin "type.__call__") ⟨.ref C :: rest, kw⟩)) (And.intro rfl ?_)
  refine codeAny_call_builtin_at (Code.quiet_builtin _ (by decide +kernel)) entry_typeCall (check_slot tc_kind tc_split typ (tc_args _ _ _) ?_)
  unfold Builtin.«type.__call__»
  have hm : Looks (model prog w) h (mroOf (.ref C)) cd.mro := ((Looks.ld (part := none) hC).andThen .now).andThen .now
  repeat ((fail_if_success (with_reducible show wpAny _ _ (PySem.getAttr _ _ _) _ _ _)); (first | simp only [e4, Bool.false_eq_true, if_false] | lk))
  refine wpAny_mono hq (fun v s' hv => ?_) fun _ _ z => z
  obtain ⟨rfl, hv⟩ := hv
  repeat ((fail_if_success (with_reducible show wpAny _ _ (PySem.call _ _ _) _ _ _)); (first | simp only [e4, Bool.false_eq_true, if_false] | lk))
  refine wpAny_mono hv (fun v s' hv => ?_) fun _ _ z => z
  obtain ⟨x, o, rfl, hx, hc, ⟨s1, i1⟩, hI⟩ := hv
  have t1 : Looks (model prog w) s'.heap (typeOf (.ref x)) (.ref C) := by
    refine (Looks.ld (M := model prog w) hx).andThen ?_
    rw [hc]
    exact .now
  unfold isInstance callSpecial? specialOf
  have b1 : Looks (model prog w) s'.heap (bindSpecial (.builtin "object.__init__") (.ref x)) (.builtin "object.__init__", [.ref x]) := Looks.of_pure (oi_bind _)
  repeat ((fail_if_success (with_reducible show wpAny _ _ (PySem.call _ _ _) _ _ _)); lk)
  refine wpAny_mono hI (fun r s'' hr => ?_) fun _ _ z => z
  obtain ⟨rfl, hr⟩ := hr
  exact wpAny_pure (wpAny_pure hr)
end
end Mine
end
/-! part Ccall -/
section
theorem Mine.startCcall : True := by
  w_top off
  exact trivial
open PySem PySem.W PyProof.Rows PySem.Calls PySem.Spec
set_option Elab.async false
set_option pp.deepTerms false
set_option pp.maxSteps 6000
set_option maxRecDepth 100000
namespace Mine
local macro_rules | `(tactic| x_close) => `(tactic| first | exact ⟨_, _, rfl, rfl, mem_old (by assumption)⟩ | exact ⟨_, _, rfl, rfl, fun _ _ e => e⟩)
theorem x_clga {w : World} {E : Value → Shared → Prop} {s : Shared} {t : Tok} (X : (K0 w.params).In s.heap) :
    wpAny (model PySem.Challenge.rw_bl0007_01.row.prog w) A9 (PySem.call (.builtin "type.__getattribute__") [.ref 395, .str (Str.ofString "__new__") t]) (Got s (.ref 341)) E s := by
  unfold PySem.call Got
  x_run
theorem x_oinit {w : World} {E : Value → Shared → Prop} {s : Shared} {x Dx : Addr} {y : Str} {t t' : Tok} {b : Bool} (X : (K0 w.params).In s.heap) (hx : s.heap.get? x = some { cls := .ref 395, dict := some Dx, data := .prim (.str y t'), slots := #[some (.bool b)] }) :
    wpAny (model PySem.Challenge.rw_bl0007_01.row.prog w) A9 (PySem.call (.builtin "object.__init__") [.ref x, .str y t] [(Str.ofString "strict", .bool b)]) (Got s .none) E s := by
  unfold PySem.call Got
  x_run
theorem ty_slotga : Slot "type" "__getattribute__" "type.__getattribute__" := .of (owner := "type") (n := "__getattribute__") (by rw [typeLookup_type, builtinLookup_eq_fast]; kernel_rfl) (by decide +kernel) (by decide +kernel) (by decide +kernel)
  (by first | exact .inl (by decide +kernel) | exact .inr (by decide +kernel)) (by rw [isSubtype_type]; kernel_rfl)
section
variable {w : World} {mean : ExcName → Option Value} {mg mb : Str → Option Value} {A : Around} {s : Shared} {Q E : Value → Shared → Prop} {h₀ : Heap} {L : Addr} {m : Str → Option Value} {news : List (Addr × Obj)}
theorem cls_ga {prog : Program} {C : Addr} {name : Str} {oC : Obj} (hC : s.heap.get? C = some oC) (hc : oC.cls = .type "type")
    (h : wpAny (model prog w) A (PySem.call (.builtin "type.__getattribute__") [.ref C, .str name s.toks]) (fun v s' => (∃ q, v = .ref q) ∧ Q v s') (fun _ _ => False) { s with toks := s.toks + 1 }) :
    wpAny (model prog w) A (getAttr (.ref C) name) Q E s := by
  obtain ⟨hh, g, d, t, os⟩ := s
  have hT : ∀ t', (⟨hh, g, d, t', os⟩ : Shared).TypeIs (.ref C) "type" := fun _ => ⟨_, hC, hc⟩
  have hlk := ty_slotga.lookup
  unfold getAttr getAttrBy
  refine wpAny_bind (wpAny_mkText (wpAny_holding (wpAny_bind (wpAny_typeOf (hT _) (wpAny_bind (wpAny_of_eq hlk ?_))))))
  show wpAny _ _ (getAttrByItsOwn (.ref C) (.str name t) (.type "type") (.builtin "type.__getattribute__") true false) _ _ _
  unfold getAttrByItsOwn hookBefore callGetattribute boundAndCalled
  refine wpAny_bind (wpAny_of_eq (show (if onTheHeap (.type "type") then typeLookup (.type "type") "__getattr__" else pure none) = pure none from rfl) ?_)
  refine wpAny_bind (wpAny_attempt (wpAny_holding ?_))
  show wpAny _ _ (bindSpecial (.builtin "type.__getattribute__") (.ref C) >>= _) _ _ _
  refine wpAny_bind (wpAny_of_eq (ty_slotga.bind _) ?_)
  refine wpAny_mono h (fun v s' hv => ?_) fun _ _ z => z.elim
  obtain ⟨⟨q, rfl⟩, hq⟩ := hv
  exact wpAny_pure hq
set_option maxHeartbeats 4000000 in
/-- Contentline(text, strict=b) -/
theorem cl_w {y : Str} {t : Tok} {b : Bool} (F : Fr h₀ L s.heap m) (X : (K0 w.params).In h₀) (N : News h₀ L s.heap news) (T : Top hd.view_39 loos mean mg mb h₀) (hdp : A.depth ≤ 700) (hun : A.units ≤ 7000) (hh : A.handled = none)
    (hy : y.length ≤ 1000) (hnl : (Builtin.Str.occurrences y (Str.ofString "\n") 0 y.length 1).isEmpty = true)
    (hret : ∀ x Dx t' h' tk, Fr h₀ L h' m → News h₀ L h' ((x, clob Dx y t' #[some (.bool b)]) :: (Dx, dict0) :: news) → (∀ p ∈ (Dx, dict0) :: news, p.1 ≠ x) → (∀ p ∈ news, p.1 ≠ Dx) → Q (.ref x) { s with heap := h', toks := tk }) :
    wpAny (model PySem.Challenge.rw_bl0007_01.row.prog w) A (PySem.call (.ref 395) [.str y t] [(Str.ofString "strict", .bool b)]) Q E s := by
  revert X; k_fill; intro X
  refine wpAny_call ?_
  have X1 := X.keeps F.keep
  have hdw : (A.under (.builtin "type.__call__" ⟨[.ref 395, .str y t], [(Str.ofString "strict", .bool b)]⟩)).depth = A.depth + 1 := by
    show A.depth + Code.weight _ = _
    rw [show Code.weight (.builtin "type.__call__" ⟨[.ref 395, .str y t], [(Str.ofString "strict", .bool b)]⟩) = 1 by first | rfl | kernel_rfl]
  have huw : (A.under (.builtin "type.__call__" ⟨[.ref 395, .str y t], [(Str.ofString "strict", .bool b)]⟩)).units = A.units + 1 := by
    show A.units + Code.cUnits _ = _
    rw [show Code.cUnits (.builtin "type.__call__" ⟨[.ref 395, .str y t], [(Str.ofString "strict", .bool b)]⟩) = 1 by first | rfl | kernel_rfl]
  have hhw : (A.under (.builtin "type.__call__" ⟨[.ref 395, .str y t], [(Str.ofString "strict", .bool b)]⟩)).handled = none := hh
  obtain ⟨oC, hC, hCt⟩ : ∃ oC, s.heap.get? 395 = some oC ∧ oC.cls = .type "type" := ⟨_, X1 395 _ (by k_is), rfl⟩
  refine makeS_core (fN := 341) (makesS_of X1 (by k_is) (by rfl) (by rfl) (by rfl) (by k_is) (by k_is)) ?_
  generalize A.under (.builtin "type.__call__" ⟨[.ref 395, .str y t], [(Str.ofString "strict", .bool b)]⟩) = B at hdw huw hhw ⊢
  refine cls_ga hC hCt ?_
  refine up9 hhw (by omega) (by omega) (wpAny_mono (x_clga (s := { s with toks := s.toks + 1 }) X1) (fun v s' hv => ?_) fun _ _ z => z)
  obtain ⟨h1, tk1, rfl, rfl, k1⟩ := hv
  refine ⟨⟨_, rfl⟩, rfl, ?_⟩
  have F1 := F.keeps k1
  have N1 := N.grown k1
  refine cnew_w F1 X N1 T (by omega) (by omega) hhw hy hnl ?_
  intro x Dx t' h2 tk2 F2 N2 hne hne2
  have X2 := X.keeps F2.keep
  refine ⟨x, _, rfl, (N2 _ (.head _)).1, rfl, ⟨looks_mroIn X2 (by k_is), looks_findIn X2 (by k_is)⟩, ?_⟩
  refine up9 hhw (by omega) (by omega) (wpAny_mono (x_oinit (X.keeps F2.keep) (N2 _ (.head _)).1) (fun v s' hv => ?_) fun _ _ z => z)
  obtain ⟨h3, tk3, rfl, rfl, k3⟩ := hv
  exact ⟨rfl, hret x Dx t' h3 tk3 (F2.keeps k3) (N2.grown k3) hne hne2⟩
end
end Mine
end
/-! part Xen -/
section
theorem Mine.startXen : True := by
  w_top off
  exact trivial
local macro_rules | `(tactic| walk_at "pad0") => `(tactic| skip)
open PySem PySem.W PyProof.Rows PySem.Calls PySem.Spec
set_option Elab.async false
set_option pp.deepTerms false
set_option pp.maxSteps 6000
set_option maxRecDepth 100000
namespace Mine
def NewE (s : Shared) (x : Addr) (v : Value) (s' : Shared) : Prop := ∃ e it h' tk, v = .ref e ∧ s' = { s with heap := h', toks := tk } ∧ (∀ b o, s.heap.get? b = some o → h'.get? b = some o) ∧ s.heap.get? e = none ∧ s.heap.get? it = none ∧ e ≠ it ∧ IsEnum h' e it 0 .none ∧ h'.get? it = some { cls := .type "str_iterator", dict := none, data := .fields #[.ref x, .int 0 0], slots := #[] }
theorem newE_of {s : Shared} {x e it : Addr} {h' : Heap} {tk : Nat} {T : String} (hT : T = "str_iterator") (k : ∀ b o, s.heap.get? b = some o → h'.get? b = some o) (h1 : s.heap.get? e = none) (h2 : s.heap.get? it = none) (h3 : IsEnum h' e it 0 .none) (h4 : h'.get? it = some { cls := .type T, dict := none, data := .fields #[.ref x, .int 0 0], slots := #[] }) :
    NewE s x (.ref e) { s with heap := h', toks := tk } := by
  subst hT
  refine ⟨e, it, h', tk, rfl, rfl, k, h1, h2, ?_, h3, h4⟩
  intro q
  unfold IsEnum at h3
  rw [q, h4] at h3
  have := congrArg Obj.cls (Option.some.inj h3)
  exact absurd (show Value.type "enumerate" = Value.type "str_iterator" from this.symm) (by decide)
local macro_rules | `(tactic| x_close) => `(tactic| exact newE_of (by first | rfl | kernel_rfl) (mem_old (by assumption)) (mem_at (by assumption) (.head _)).2 (mem_at (by assumption) (.tail _ (.head _))).2 (mem_at (by assumption) (.head _)).1 (mem_at (by assumption) (.tail _ (.head _))).1)
theorem x_enum {w : World} {E : Value → Shared → Prop} {s : Shared} {x Dx : Addr} {y : Str} {t : Tok} {b : Bool} (X : (K0 w.params).In s.heap) (hx : s.heap.get? x = some { cls := .ref 395, dict := some Dx, data := .prim (.str y t), slots := #[some (.bool b)] }) :
    wpAny (model PySem.Challenge.rw_bl0007_01.row.prog w) A9 (PySem.call (.type "enumerate") [.ref x]) (NewE s x) E s := by
  unfold PySem.call
  x_run
end Mine
namespace Mine
def GotI (s : Shared) (n : Int) (v : Value) (s' : Shared) : Prop := ∃ h' tk t, v = .int n t ∧ s' = { s with heap := h', toks := tk } ∧ (∀ b o, s.heap.get? b = some o → h'.get? b = some o)
local macro_rules | `(tactic| x_close) => `(tactic| first | exact ⟨_, _, _, rfl, rfl, mem_old (by assumption)⟩ | exact ⟨_, _, _, rfl, rfl, fun _ _ e => e⟩)
theorem x_len {w : World} {E : Value → Shared → Prop} {s : Shared} {x Dx : Addr} {y : Str} {t : Tok} {b : Bool} (hy : y.length ≤ 1000) (X : (K0 w.params).In s.heap) (hx : s.heap.get? x = some { cls := .ref 395, dict := some Dx, data := .prim (.str y t), slots := #[some (.bool b)] }) :
    wpAny (model PySem.Challenge.rw_bl0007_01.row.prog w) A9 (PySem.call (.builtin "len") [.ref x]) (GotI s y.length) E s := by
  unfold PySem.call GotI
  x_run
local macro_rules | `(tactic| x_close) => `(tactic| first | exact ⟨_, _, rfl, rfl, fun _ _ e => e⟩ | exact ⟨_, _, congrArg Value.bool (Eq.symm (by assumption)), rfl, fun _ _ e => e⟩)
theorem x_strict {w : World} {E : Value → Shared → Prop} {s : Shared} {x Dx : Addr} {y : Str} {t tn : Tok} {b : Bool} (X : (K0 w.params).In s.heap) (hx : s.heap.get? x = some { cls := .ref 395, dict := some Dx, data := .prim (.str y t), slots := #[some (.bool b)] }) :
    wpAny (model PySem.Challenge.rw_bl0007_01.row.prog w) A9 (PySem.call (.builtin "object.__getattribute__") [.ref x, .str (Str.ofString "strict") tn]) (Got s (.bool b)) E s := by
  unfold PySem.call Got
  x_run
end Mine
end
/-! part Cit -/
section
theorem Mine.startCit : True := by
  w_top off
  exact trivial
open PySem PySem.W PyProof.Rows PySem.Calls PySem.Spec
set_option Elab.async false
set_option maxRecDepth 100000
namespace Mine
/-! the signs of a text's subclass -/
section
variable {prog : Program} {w : World} {A : Around} {E : Value → Shared → Prop} {s : Shared}
abbrev sitObj (v : Value) (i : Nat) : Obj := { cls := .type "str_iterator", dict := none, data := .fields #[v, .int i 0], slots := #[] }
theorem nx_item {it x : Addr} {ox : Obj} {y : Str} {t : Tok} {i c : Nat} {Q : Value → Shared → Prop} (hit : s.heap.get? it = some (sitObj (.ref x) i)) (hx : s.heap.get? x = some ox) (hd : ox.data = .prim (.str y t)) (hc : y.cps[i]? = some c)
    (hQ : ∀ h', h'.get? it = some (sitObj (.ref x) (i + 1)) → Heap.SameBut it s.heap h' → Q (.str ⟨#[c]⟩ s.toks) { s with heap := h', toks := s.toks + 1 }) :
    wpAny (model prog w) A (Builtin.SmallTypes.nextOf (.ref it)) Q E s := by
  have hT : s.TypeIs (.ref it) "str_iterator" := ⟨_, hit, rfl⟩
  unfold Builtin.SmallTypes.nextOf
  refine wpAny_bind (wpAny_callSpecial?_slot (name := Str.ofString "__next__") hT F.slot_str_iterator_next
    (wpAny_call_entry F.slot_str_iterator_next hT F.entry_str_iterator_next ?_ (F.args_str_iterator_next_1 _)))
  show wpAny _ _ (field (.ref it) 0 >>= _) _ _ s
  refine wpAny_bind (wpAny_field hit rfl (x := .ref x) rfl ?_)
  show wpAny _ _ (asStr? (.ref x) >>= _) _ _ s
  refine wpAny_bind ?_
  unfold asStr?
  refine wpAny_bind (wpAny_load hx ?_)
  rw [hd]
  refine wpAny_pure ?_
  show wpAny _ _ (field (.ref it) 1 >>= _) _ _ s
  refine wpAny_bind (wpAny_field hit rfl (x := .int i 0) rfl ?_)
  simp only [Int.toNat_natCast, hc]
  refine wpAny_bind (wpAny_setField_rec hit (by simp) fun h' he hs => ?_)
  refine wpAny_bind (wpAny_mkStr (wpAny_pure ⟨_, rfl, wpAny_pure (hQ h' ?_ hs)⟩))
  have e : ((i + 1 : Nat) : Int) = (i : Int) + 1 := by omega
  simpa [sitObj, rawInt, e] using he
theorem nx_end {it x : Addr} {ox : Obj} {y : Str} {t : Tok} {i : Nat} {Q : Value → Shared → Prop} (hh : A.handled = none) (hit : s.heap.get? it = some (sitObj (.ref x) i)) (hx : s.heap.get? x = some ox) (hd : ox.data = .prim (.str y t)) (hc : y.cps[i]? = none)
    (hE : ∀ h' e, Heap.ExtBut it s.heap h' → (∃ o, h'.get? e = some o ∧ o.cls = .type "StopIteration") → E (.ref e) { s with heap := h' }) :
    wpAny (model prog w) A (Builtin.SmallTypes.nextOf (.ref it)) Q E s := by
  have hT : s.TypeIs (.ref it) "str_iterator" := ⟨_, hit, rfl⟩
  unfold Builtin.SmallTypes.nextOf
  refine wpAny_bind (wpAny_callSpecial?_slot (name := Str.ofString "__next__") hT F.slot_str_iterator_next
    (wpAny_call_entry F.slot_str_iterator_next hT F.entry_str_iterator_next ?_ (F.args_str_iterator_next_1 _)))
  show wpAny _ _ (field (.ref it) 0 >>= _) _ _ s
  refine wpAny_bind (wpAny_field hit rfl (x := .ref x) rfl ?_)
  show wpAny _ _ (asStr? (.ref x) >>= _) _ _ s
  refine wpAny_bind ?_
  unfold asStr?
  refine wpAny_bind (wpAny_load hx ?_)
  rw [hd]
  refine wpAny_pure ?_
  show wpAny _ _ (field (.ref it) 1 >>= _) _ _ s
  refine wpAny_bind (wpAny_field hit rfl (x := .int i 0) rfl ?_)
  simp only [Int.toNat_natCast, hc]
  refine wpAny_bind (wpAny_rule (wpAny_bind (wpAny_setField hit rfl (by simp) (wpAny_bind (wpAny_letGo ?_)))))
  show wpAny _ _ (newExc (.type "StopIteration") [] >>= _) _ _ _
  refine wpAny_bind ?_
  simp only [newExc, newTuple]
  refine wpAny_bind (wpAny_newObj_type ?_ (by size_fits))
  refine wpAny_bind (m := firstArgMember _ _) (wpAny_of_eq (a := Value.none) (by first | rfl | (simp only [firstArgMember]; rfl)) ?_)
  refine wpAny_newObj_type ?_ (by size_fits)
  simp only [raiseNew]
  refine wpAny_bind (wpAny_handled ?_)
  first | rw [show A.in1.handled = none from hh] | rw [hh]
  refine wpAny_bind (wpAny_pure (wpAny_throw ?_))
  exact hE _ _ (((Heap.SameBut.update ..).extBut.push _).push _) ⟨_, Heap.get?_push_size _ rfl, rfl⟩
end
theorem Draws.sub {prog : Program} {w : World} {A : Around} (hh : A.handled = none) (it x : Addr) (hne : x ≠ it) (ox : Obj) (y : Str) (t : Tok) (hd : ox.data = .prim (.str y t)) :
    Draws prog w A it [it, x] y.cps.size (SignAt y) (fun i h => h.get? it = some (sitObj (.ref x) i) ∧ h.get? x = some ox) where
  live := fun _ _ st => ⟨_, st.1⟩
  frame := fun _ _ _ st hk => ⟨hk it (.head _) _ st.1, hk x (.tail _ (.head _)) _ st.2⟩
  item := fun i s Q E hi st hQ => by
    refine nx_item st.1 st.2 hd (c := y.cps[i]) (by simp [hi]) fun h' hit' hs' => ?_
    exact hQ _ h' (s.toks + 1) ⟨_, _, by simp [hi], rfl⟩ ⟨hit', hs'.extBut _ _ hne st.2⟩ hs'
  done := fun s Q E st hE => nx_end hh st.1 st.2 hd (by simp) hE
/-- enumerate(x) -/
theorem WalksU.enumSub {prog : Program} {w : World} {A : Around} (hh : A.handled = none) (e it x : Addr) (hei : e ≠ it) (hxe : x ≠ e) (hxi : x ≠ it) (ox : Obj) (y : Str) (t : Tok) (hd : ox.data = .prim (.str y t)) :
    WalksU prog w A e [e, it, x] [e, it] y.cps.size (fun i vals => ∃ t v, SignAt y i v ∧ vals = #[.int i t, v])
      (fun i h => (∃ old, IsEnum h e it i old) ∧ (h.get? it = some (sitObj (.ref x) i) ∧ h.get? x = some ox))
      (fun i T h => (∃ v, IsEnumOut h e it ((i : Int) + 1) v T) ∧ (h.get? it = some (sitObj (.ref x) (i + 1)) ∧ h.get? x = some ox) ∧ T ≠ e ∧ T ≠ it) :=
  (WalksT.enumerateD (Draws.sub (A := A.in1) hh it x hxi ox y t hd) e hei (by simp [hei, Ne.symm hxe]) (by simp)).toU
end Mine
end
/-! part Fore -/
section
theorem Mine.startFore : True := by
  w_top off
  exact trivial
open PySem PySem.W PyProof.Rows PySem.Calls PySem.Spec
set_option Elab.async false
namespace Mine
/-! for i, ch in enumerate(x), x a text's subclass -/
section
variable {prog : Program} {w : World} {A : Around} {E : Value → Shared → Prop} {s : Shared} {env : Env} {h₀ : Heap} {L : Addr} {Q : Flow → Shared → Prop}
def EEnd (h₀ : Heap) (L : Addr) (s : Shared) (Q : Flow → Shared → Prop) (e it : Addr) (oe oit : Obj) (J : (Str → Option Value) → List (Addr × Obj) → Prop) (f : Flow) (s' : Shared) : Prop :=
  match f with
  | .brk => Q .next s'
  | .ret v => Q (.ret v) s'
  | _ => ∃ h tk m news, s' = { s with heap := h, toks := tk } ∧ Fr h₀ L h m ∧ News h₀ L h ((e, oe) :: (it, oit) :: news) ∧ (∀ p ∈ news, p.1 ≠ e ∧ p.1 ≠ it) ∧ J m news
theorem for_enum {xa xb : Str} {pa pb pt : Pos} {kt : Nat} {body : List Stmt} {e it x : Addr} {ox : Obj} {y : Str} {t : Tok} {m₀ : Str → Option Value} {news₀ : List (Addr × Obj)} (hh : A.handled = none) (hei : e ≠ it) (hd : ox.data = .prim (.str y t))
    (hL : env.locals = L) (hxa : env.kindOf xa = some .local) (hxb : env.kindOf xb = some .local) (hp : (env.scope.kind == .class || (env.scope.kind == .module && env.locals != env.globals)) = false)
    (he : IsEnum s.heap e it 0 .none) (hit : s.heap.get? it = some (sitObj (.ref x) 0)) (he0 : h₀.get? e = none) (hi0 : h₀.get? it = none) (heL : e ≠ L) (hiL : it ≠ L)
    (J : Nat → (Str → Option Value) → List (Addr × Obj) → Prop) (hJx : ∀ i m news, J i m news → (x, ox) ∈ news) (F : Fr h₀ L s.heap m₀) (N : News h₀ L s.heap news₀) (hn : ∀ p ∈ news₀, p.1 ≠ e ∧ p.1 ≠ it) (hJ : J 0 m₀ news₀)
    (turn : ∀ i c tok ti h tk m news oe oit, s.toks ≤ tk → y.cps[i]? = some c → J i m news → Fr h₀ L h (fun z => if z = xb then some (.str (S [c]) tok) else if z = xa then some (.int i ti) else m z) → News h₀ L h ((e, oe) :: (it, oit) :: news) → (∀ p ∈ news, p.1 ≠ e ∧ p.1 ≠ it) →
      wpAny (model prog w) A (execs body env) (fun f s' => TEnd (EEnd h₀ L s Q e it oe oit (J (i + 1)) f s')) (notedBy (model prog w) A env fun e s' => cameBackBy (model prog w) A env E e s') { s with heap := h, toks := tk })
    (done : ∀ h tk m news, s.toks ≤ tk → J y.cps.size m news → Fr h₀ L h m → News h₀ L h news → Q .next { s with heap := h, toks := tk }) :
    codeAny (model prog w) A (.forLoop (.Tuple [.Name xa pa, .Name xb pb] kt pt) (.ref e) body [] env) (fun r s' => match r with | .ok f => Q f s' | .error e => cameBackBy (model prog w) A env E e s') s := by
  subst hL
  have hxe : x ≠ e := (hn _ (hJx _ _ _ hJ)).1
  have hxi : x ≠ it := (hn _ (hJx _ _ _ hJ)).2
  have W := WalksU.enumSub (prog := prog) (w := w) hh e it x hei hxe hxi ox y t hd
  refine codeAny_forLoop_any (fun k s' => s.toks ≤ s'.toks ∧ ∃ i h tk m news, k = y.cps.size - i ∧ i ≤ y.cps.size ∧ s' = { s with heap := h, toks := tk } ∧ (∃ old, IsEnum h e it i old) ∧ h.get? it = some (sitObj (.ref x) i) ∧ Fr h₀ env.locals h m ∧ News h₀ env.locals h news ∧ (∀ p ∈ news, p.1 ≠ e ∧ p.1 ≠ it) ∧ J i m news) ?_ y.cps.size
    ⟨Nat.le_refl _, 0, s.heap, s.toks, m₀, news₀, rfl, Nat.zero_le _, rfl, ⟨_, he⟩, hit, F, N, hn, hJ⟩
  rintro k _ ⟨ht, i, h, tk, m, news, rfl, hi, rfl, st1, st2, F', N', hn', hJ'⟩
  have st : (∃ old, IsEnum h e it i old) ∧ (h.get? it = some (sitObj (.ref x) i) ∧ h.get? x = some ox) := ⟨st1, st2, (N' _ (hJx _ _ _ hJ')).1⟩
  have off : ∀ {b : Addr}, b ≠ e → b ≠ it → b ∉ [e, it] := fun h1 h2 hb => by
    rcases List.mem_cons.mp hb with h | h
    · exact h1 h
    · exact h2 (List.mem_singleton.mp h)
  have keepF : ∀ {h1 h' : Heap}, Fr h₀ env.locals h1 m → (∀ b o, b ∉ [e, it] → h1.get? b = some o → h'.get? b = some o) → Fr h₀ env.locals h' m := fun {h1 h'} F1 hk => by
    obtain ⟨ob, es, ep, e1, e2⟩ := F1.ns
    refine ⟨⟨ob, es, ep, hk _ _ (off (Ne.symm heL) (Ne.symm hiL)) e1, e2⟩, fun b o q => hk _ _ (off ?_ ?_) (F1.keep b o q), F1.above⟩
    · intro hb; rw [hb, he0] at q; cases q
    · intro hb; rw [hb, hi0] at q; cases q
  have keepN : ∀ {h1 h' : Heap}, News h₀ env.locals h1 news → (∀ b o, b ∉ [e, it] → h1.get? b = some o → h'.get? b = some o) → News h₀ env.locals h' news := fun {h1 h'} N1 hk p hp => ⟨hk _ _ (off (hn' p hp).1 (hn' p hp).2) (N1 p hp).1, (N1 p hp).2⟩
  by_cases hin : i < y.cps.size
  · refine wpAny_with_toks ht (W.item i _ _ _ hin st fun T vals h1 tk1 hP hT hmid hk1 => ?_)
    intro htk1
    obtain ⟨ti, v, ⟨c, tok, hc, rfl⟩, rfl⟩ := hP
    refine wpAny_with_toks (n := s.toks) htk1 (W.go _ _ _ i T _ _ _ hmid fun h2 st2' hk2 => ?_)
    intro htk2
    have hT2 : h2.IsTuple T #[.int i ti, .str ⟨#[c]⟩ tok] := let ⟨o, q, r⟩ := hT; ⟨o, hk2 _ o (W.apart i T _ hmid) q, r⟩
    have F1 := keepF (keepF F' hk1) hk2
    have N1 := keepN (keepN N' hk1) hk2
    refine wpAny_with_toks (n := s.toks) htk2 (kcp_assign hh hT2 hxa hxb hp F1.ns fun h3 tk3 hn3 up => ?_)
    intro htk3
    have F3 : Fr h₀ env.locals h3 (fun z => if z = xb then some (.str (S [c]) tok) else if z = xa then some (.int i ti) else m z) := by
      refine ⟨hn3, fun b o q => up b o ?_ (F1.keep b o q), F1.above⟩
      intro z
      exact Nat.lt_irrefl _ (Nat.lt_of_lt_of_le (z ▸ Heap.lt_size q) F1.above)
    have N3 : News h₀ env.locals h3 news := fun p hp => ⟨up _ _ (N1 p hp).2.1 (N1 p hp).1, (N1 p hp).2⟩
    obtain ⟨⟨old, he2⟩, hit2, hx2⟩ := st2'
    obtain ⟨oe, he3, hoe⟩ : ∃ oe, h3.get? e = some oe ∧ ∀ h4 : Heap, h4.get? e = some oe → IsEnum h4 e it ((i + 1 : Nat) : Int) old := ⟨_, up _ _ heL he2, fun _ z => z⟩
    have hit3 := up _ _ hiL hit2
    have N4 : News h₀ env.locals h3 ((e, oe) :: (it, sitObj (.ref x) (i + 1)) :: news) := fun p hp => by
      rcases List.mem_cons.mp hp with rfl | hp
      · exact ⟨he3, heL, he0⟩
      · rcases List.mem_cons.mp hp with rfl | hp
        · exact ⟨hit3, hiL, hi0⟩
        · exact N3 p hp
    refine wpAny_with_toks (n := s.toks) htk3 (wpAny_mono (turn i c tok ti h3 tk3 m news oe (sitObj (.ref x) (i + 1)) htk3 hc hJ' F3 N4 hn') (fun f s₃ hf ht3 => ?_) fun _ _ z _ => z)
    have hf := hf.out
    unfold EEnd at hf
    have fin : (∃ h' tk' m' news', s₃ = { ({ s with heap := h3, toks := tk3 } : Shared) with heap := h', toks := tk' } ∧ Fr h₀ env.locals h' m' ∧ News h₀ env.locals h' ((e, oe) :: (it, sitObj (.ref x) (i + 1)) :: news') ∧ (∀ p ∈ news', p.1 ≠ e ∧ p.1 ≠ it) ∧ J (i + 1) m' news') → ∃ k', k' < y.cps.size - i ∧ (s.toks ≤ s₃.toks ∧ ∃ i h tk m news, k' = y.cps.size - i ∧ i ≤ y.cps.size ∧ s₃ = { s with heap := h, toks := tk } ∧ (∃ old, IsEnum h e it i old) ∧ h.get? it = some (sitObj (.ref x) i) ∧ Fr h₀ env.locals h m ∧ News h₀ env.locals h news ∧ (∀ p ∈ news, p.1 ≠ e ∧ p.1 ≠ it) ∧ J i m news) := by
      rintro ⟨h4, tk4, m4, news4, rfl, F4, N4, hn4, J4⟩
      exact ⟨y.cps.size - (i + 1), by omega, ht3, i + 1, h4, tk4, m4, news4, rfl, hin, rfl, ⟨old, hoe _ (N4 _ (.head _)).1⟩, (N4 _ (.tail _ (.head _))).1, F4, fun p hp => N4 p (.tail _ (.tail _ hp)), hn4, J4⟩
    cases f with
    | brk => exact hf
    | ret v => exact hf
    | next => exact fin hf
    | cont => exact fin hf
  · have : i = y.cps.size := by omega
    subst this
    refine wpAny_with_toks ht (W.done _ _ _ st fun h1 tk1 hk1 => ?_)
    intro htk1
    dsimp only
    exact wpAny_execs_nil (done h1 tk1 m news htk1 hJ' (keepF F' hk1) (keepN N' hk1))
end
end Mine
end
/-! part Csl -/
section
theorem Mine.startCsl : True := by
  w_top off
  exact trivial
open PySem PySem.W PyProof.Rows PySem.Calls PySem.Spec
set_option Elab.async false
set_option maxRecDepth 100000
namespace Mine
theorem sgi_kind : builtinKind "str.__getitem__" = some .slot := by decide +kernel
theorem sgi_split : splitId "str.__getitem__" = some ("str", "__getitem__") := by decide +kernel
theorem subscr_slice {lo hi : Option Expr} {ps : Pos} {b : Bool} {o i : Value} : subscripted (.Slice lo hi none ps) b o i = operate [i, o] (getItem o i) := by cases b <;> rfl
section
variable {prog : Program} {w : World} {A : Around} {E : Value → Shared → Prop} {s : Shared} {K : Frag} {x Dx C : Addr} {ox : Obj} {od : Option Obj}
set_option maxHeartbeats 1000000 in
/-- a slice of a text's subclass that is not the whole of it -/
theorem slice_sub {value : Expr} {lo hi : Option Expr} {ps : Pos} {sa : Addr} {l u : Option (Int × Tok)} {y : Str} {t : Tok} {Q : Value → Shared → Prop} (X : K.In s.heap) (I : InstAt s.heap x ox C od) (hd : ox.data = .prim (.str y t)) (hq : noSeq K C = true)
    (hgi : findIn K (.ref C) "__getitem__" = some (some (.builtin "str.__getitem__"))) (hstr : mroIn K C (.type "str") = some true) (hs : s.heap.IsSlice sa l u none)
    (hpr : (Builtin.Str.strSliceIndices (l.map (·.1)) (u.map (·.1)) 1 y.length).length ≠ y.length) (hy : y.length ≤ 1000) (h : ∀ t', Q (.str (Txt.slice y (l.map (·.1)) (u.map (·.1))) t') { s with toks := s.toks + 1 })
    (ht : ∀ r, letTemporaryGo value (.ref x) r = pure ()) :
    wpAny (model prog w) A (subscriptTail value (.Slice lo hi none ps) (.ref x) (.ref sa)) Q E s := by
  have T := I.type (M := model prog w)
  have G := looks_findIn (M := model prog w) X hgi
  unfold subscriptTail
  refine wpAny_bind ?_
  unfold getitemInPython specialOf
  refine wpAny_bind (wpAny_bind (T.here (G.here (wpAny_pure ?_))))
  refine wpAny_bind ?_
  rw [subscr_slice]
  refine wpAny_operating ?_
  refine wpAny_mono (Q := Q) ?_ (fun r s₃ h₃ => wpAny_bind (wpAny_of_eq (ht r) (wpAny_pure h₃))) fun _ _ e => e
  unfold getItem sequenceKey
  refine wpAny_holding (wpAny_bind (wpAny_bind (T.here ?_)))
  refine wpAny_bind ((anyM_none X hq).here ?_)
  rw [if_pos (show (!false) = true from rfl)]
  refine wpAny_pure (wpAny_bind ?_)
  unfold callSpecial? specialOf
  refine wpAny_bind (wpAny_bind (T.here (G.here ?_)))
  dsimp only
  refine wpAny_holding (wpAny_bind (wpAny_of_eq (F.slot_str_getitem.bind _) ?_))
  refine wpAny_bind (wpAny_call ?_)
  have ist : Looks (model prog w) s.heap (isInstance (.ref x) (.type "str")) true := T.andThen (looks_mroIn X hstr)
  refine codeAny_call_builtin F.slot_str_getitem.plain F.entry_str_getitem (check_slot sgi_kind sgi_split ist (F.args_str_getitem_2 _ _) ?_)
  unfold Builtin.«str.__getitem__»
  refine wpAny_bind (wpAny_bind (wpAny_pure ?_))
  have ho := I.at_
  have hTs : s.TypeIs (.ref sa) "slice" := let ⟨o, ho, hc, _⟩ := hs; ⟨o, ho, hc⟩
  dsimp only
  unfold Builtin.Str.textOf asStr?
  refine wpAny_bind (wpAny_bind (wpAny_bind (wpAny_load ho ?_)))
  rw [hd]
  refine wpAny_pure (wpAny_pure (wpAny_pure ?_))
  show wpAny _ _ (typeOf (.ref sa) >>= _) _ _ _
  refine wpAny_bind (wpAny_typeOf hTs ?_)
  rw [if_pos (by decide)]
  refine wpAny_bind (wpAny_strSliceParts hs rfl ?_)
  dsimp only
  have hb : ((Option.map (fun x => x.fst) (none : Option (Int × Tok))).getD 1 == 1 && (Builtin.Str.strSliceIndices (l.map (·.1)) (u.map (·.1)) ((Option.map (fun x => x.fst) (none : Option (Int × Tok))).getD 1) y.length).length == y.length) = false := by
    show ((1 : Int) == 1 && _) = false
    rw [show ((1 : Int) == 1) = true by decide, Bool.true_and]
    exact beq_eq_false_iff_ne.mpr hpr
  have hsl : Txt.slice y (l.map (·.1)) (u.map (·.1)) = ⟨((Builtin.Str.strSliceIndices (l.map (·.1)) (u.map (·.1)) ((Option.map (fun x => x.fst) (none : Option (Int × Tok))).getD 1) y.length).filterMap (y.cps[·]?)).toArray⟩ := by
    unfold Txt.slice
    rw [if_neg (by rw [show ((1 : Int) == 1) = true by decide, Bool.true_and, beq_eq_false_iff_ne.mpr hpr]; exact Bool.false_ne_true)]
    rfl
  rw [if_neg (by rw [hb]; exact Bool.false_ne_true), ← hsl]
  unfold retStr
  refine wpAny_bind (wpAny_mkStr (hx := by rw [PySem.sizeLine_eq]; exact Nat.le_trans (Txt.slice_le _ _ _) (by omega)) (wpAny_pure ?_))
  exact wpAny_pure (wpAny_pure (h _))
end
end Mine
end
/-! part Cst -/
section
theorem Mine.startCst : True := by
  w_top off
  exact trivial
local macro_rules | `(tactic| walk_at "pad0") => `(tactic| skip)
open PySem PySem.W PyProof.Rows PySem.Calls PySem.Spec
set_option Elab.async false
set_option pp.deepTerms false
set_option pp.maxSteps 6000
set_option maxRecDepth 100000
namespace Mine
local macro_rules | `(tactic| x_close) => `(tactic| first | exact ⟨_, _, rfl, rfl, fun _ _ e => e⟩ | exact ⟨_, _, congrArg Value.bool (Eq.symm (by assumption)), rfl, fun _ _ e => e⟩)
theorem x_hooked {w : World} {E : Value → Shared → Prop} {s : Shared} {x Dx : Addr} {y : Str} {t tn : Tok} {b : Bool} (X : (K0 w.params).In s.heap) (hx : s.heap.get? x = some { cls := .ref 395, dict := some Dx, data := .prim (.str y t), slots := #[some (.bool b)] }) :
    wpAny (model PySem.Challenge.rw_bl0007_01.row.prog w) A9 (runValue (.builtin "proto.getattr_hooked" ⟨[.ref x, .str (Str.ofString "strict") tn], []⟩)) (Got s (.bool b)) E s := by
  unfold Got
  x_run
theorem hook_passes {prog : Program} {w : World} {A : Around} {E : Value → Shared → Prop} {s : Shared} {K : Frag} {x C : Addr} {ox : Obj} {od : Option Obj} {name : Str} {b : Bool} {Q : Value → Shared → Prop} (X : K.In s.heap) (I : InstAt s.heap x ox C od) (hga : findIn K (.ref C) "__getattribute__" = some (some (.builtin "object.__getattribute__")))
    (h : wpAny (model prog w) A (runValue (.builtin "proto.getattr_hooked" ⟨[.ref x, .str name s.toks], []⟩)) (fun v s' => v = .bool b ∧ Q v s') (fun _ _ => False) { s with toks := s.toks + 1 }) :
    wpAny (model prog w) A (getAttr (.ref x) name true) Q E s := by
  obtain ⟨hh, g, d, t, os⟩ := s
  have L0 := I.type (M := model prog w)
  have L1 := looks_findIn (M := model prog w) X hga
  unfold getAttr getAttrBy
  refine wpAny_bind (wpAny_mkText (wpAny_holding (wpAny_bind (L0.at (wpAny_bind (L1.at ?_))))))
  show wpAny _ _ (getAttrEveryday _ _ _) _ _ _
  refine wpAny_bind (wpAny_onRaise (wpAny_mono h (fun v s' hv => ?_) fun _ _ z => z.elim))
  obtain ⟨rfl, hq⟩ := hv
  exact wpAny_pure hq
end Mine
end
/-! part Tsl -/
section
theorem Mine.startTsl : True := by
  w_top off
  exact trivial
open PySem PySem.W PyProof.Rows PySem.Calls PySem.Spec
set_option Elab.async false
namespace Mine
theorem S_slice_void {l : List Nat} {a b : Nat} (h1 : b ≤ a) (h2 : b ≤ l.length) (h3 : 0 < l.length) : PySem.Txt.slice (S l) (some (a : Int)) (some (b : Int)) = S ((l.take b).drop a) := by
  have e : (l.take b).drop a = [] := by simp; omega
  rw [e]
  have hi : Builtin.Str.strSliceIndices (some (a : Int)) (some (b : Int)) 1 (S l).length = [] := by
    have hn : ((S l).length : Int) = (l.length : Int) := by rw [S_len]
    unfold Builtin.Str.strSliceIndices sliceRange
    simp only [show (1 : Int) > 0 by decide, if_true, show ¬ ((a : Int) < 0) by omega, show ¬ ((b : Int) < 0) by omega, if_false]
    rw [hn, if_neg (by omega)]
    rfl
  unfold Txt.slice
  rw [hi]
  have hl : (S l).length ≠ 0 := by rw [S_len]; omega
  rw [if_neg (by simp; exact fun h => hl h.symm)]
  rfl
theorem S_slice_any {l : List Nat} {a b : Nat} (h2 : b ≤ l.length) (h3 : 0 < l.length) : PySem.Txt.slice (S l) (some (a : Int)) (some (b : Int)) = S ((l.take b).drop a) := by
  by_cases h : a ≤ b
  · exact S_slice h h2
  · exact S_slice_void (by omega) h2 h3
end Mine
namespace Mine
theorem proper_of {y : Str} {l u : Option Int} (h : Txt.slice y l u ≠ y) : (Builtin.Str.strSliceIndices l u 1 y.length).length ≠ y.length := by
  intro e
  apply h
  unfold Txt.slice
  rw [if_pos (by rw [show ((1 : Int) == 1) = true by decide, Bool.true_and, e]; exact beq_self_eq_true _)]
section
variable {prog : Program} {w : World} {A : Around} {E : Value → Shared → Prop} {K : Frag} {x Dx : Addr} {h₀ h : Heap} {L : Addr} {m : Str → Option Value} {news : List (Addr × Obj)} {g : Array GenState} {d : Drawn} {tk : Nat} {os : OsState}
/-- a slice of a Contentline, in the ledger's words -/
theorem slice_K {value : Expr} {lo hi : Option Expr} {ps : Pos} {l u : Option (Int × Tok)} {y r : Str} {t : Tok} {sl : Array (Option Value)} {Q : Value → Shared → Prop} (F : Fr h₀ L h m) (N : News h₀ L h news) (X₀ : K.In h₀) (hx : (x, clob Dx y t sl) ∈ news) (hdx : (Dx, dict0) ∈ news) (hC : notCls (clob Dx y t sl) = true) (hq : noSeq K 395 = true)
    (hgi : findIn K (.ref 395) "__getitem__" = some (some (.builtin "str.__getitem__"))) (hstr : mroIn K 395 (.type "str") = some true)
    (hr : Txt.slice y (l.map (·.1)) (u.map (·.1)) = r) (hpr : r ≠ y) (hy : y.length ≤ 1000) (ht : ∀ r, letTemporaryGo value (.ref x) r = pure ())
    (hQ : ∀ t' h', Fr h₀ L h' m → News h₀ L h' news → Q (.str r t') ⟨h', g, d, tk + 1, os⟩) :
    wpAny (model prog w) A (subscriptTail value (.Slice lo hi none ps) (.ref x) (.ref h.objs.size)) Q E ⟨h.push { cls := .type "slice", data := .fields #[partValue l, partValue u, .none] }, g, d, tk, os⟩ := by
  subst hr
  have F4 := F.push { cls := .type "slice", data := .fields #[partValue l, partValue u, .none] }
  have N4 := N.pushKeep { cls := .type "slice", data := .fields #[partValue l, partValue u, .none] }
  refine slice_sub (C := 395) (ox := clob Dx y t sl) (od := some dict0) (l := l) (u := u) (X₀.keeps F4.keep) ⟨(N4 _ hx).1, rfl, hC, (N4 _ hdx).1⟩ rfl hq hgi hstr ⟨_, Heap.get?_push_size _ rfl, rfl, rfl⟩ (proper_of hpr) hy ?_ ht
  intro t'
  exact hQ t' _ F4 N4
end
end Mine
namespace Mine
theorem strict_K {w : World} {A : Around} {E : Value → Shared → Prop} {x Dx : Addr} {h₀ : Heap} {L : Addr} {m : Str → Option Value} {news : List (Addr × Obj)} {s : Shared} {y : Str} {t : Tok} {b : Bool} {Q : Value → Shared → Prop} (hga : findIn (K0 w.params) (.ref 395) "__getattribute__" = some (some (.builtin "object.__getattribute__")))
    (F : Fr h₀ L s.heap m) (N : News h₀ L s.heap news) (X₀ : (K0 w.params).In h₀) (hx : (x, clob Dx y t #[some (.bool b)]) ∈ news) (hdx : (Dx, dict0) ∈ news) (hC : notCls (clob Dx y t #[some (.bool b)]) = true) (hh : A.handled = none) (hd : A.depth ≤ 900) (hu : A.units ≤ 9000)
    (hQ : ∀ h' tk, 1 ≤ tk → Fr h₀ L h' m → News h₀ L h' news → Q (.bool b) { s with heap := h', toks := tk }) :
    wpAny (model PySem.Challenge.rw_bl0007_01.row.prog w) A (getAttr (.ref x) (Str.ofString "strict") true) Q E s := by
  refine hook_passes (b := b) (C := 395) (ox := clob Dx y t #[some (.bool b)]) (od := some dict0) (X₀.keeps F.keep) ⟨(N _ hx).1, rfl, hC, (N _ hdx).1⟩ hga ?_
  refine wpAny_with_toks (n := 1) (by show 1 ≤ _ + 1; omega) ?_
  refine up9 hh hd hu (wpAny_mono (x_hooked (X₀.keeps F.keep) (N _ hx).1) (fun v s' hv => ?_) fun _ _ z => z)
  obtain ⟨h6, tk6, rfl, rfl, k6⟩ := hv
  intro htk6
  exact ⟨rfl, hQ h6 tk6 htk6 (F.keeps k6) (N.grown k6)⟩
end Mine
namespace Mine
theorem callWith_MKW {K : Frag} {M : Model} {A : Around} {E : Value → Shared → Prop} {s : Shared} {env : Env} {pos : Pos} {q g : Addr} {self : Value} {first : List Value} {Q : Value → Shared → Prop} {e : Expr} {rest : List Expr} {kws : List Keyword} (hf : fnIn K g = true) (hall : (backToKw pos (keywordEach kws env)).all (·.1.isSome) = true)
    (h : wpAny M A (spliced (backTo pos (starEach (e :: rest) env))) (fun vs s₁ => wpAny M A (evalAll ((backToKw pos (keywordEach kws env)).map (·.2)))
      (fun ks s₂ => MethP K q g self s₂.heap ∧ wpAny M A (PySem.call (.ref q) (first ++ vs) (((backToKw pos (keywordEach kws env)).filterMap (·.1)).zip ks)) Q E s₂) E s₁) E s)
    (hplain : ((backTo pos (starEach (e :: rest) env)).any (·.1) || (backToKw pos (keywordEach kws env)).any (·.1.isNone)) = false := by rfl) (he : starEach (e :: rest) env = (false, eval e env) :: starEach rest env := by rfl) :
    wpAny M A (callWith pos (.ref q) first (backTo pos (starEach (e :: rest) env)) (backToKw pos (keywordEach kws env))) Q E s :=
  callWith_of hplain (keeps_M hf) (evalArgs_kw2 hall h he)
end Mine
end
/-! part Xit -/
section
theorem Mine.startXit : True := by
  w_top off
  exact trivial
open PySem PySem.W PyProof.Rows PySem.Calls PySem.Spec
set_option Elab.async false
set_option pp.deepTerms false
set_option pp.maxSteps 6000
set_option maxRecDepth 100000
namespace Mine
local macro_rules | `(tactic| x_close) => `(tactic| exact ⟨_, _, _, _, rfl, rfl, mem_old (by assumption), (mem_at (by assumption) (.head _)).2, (mem_at (by assumption) (.head _)).1, rfl⟩)
theorem x_pitems {w : World} {E : Value → Shared → Prop} {s : Shared} {D Dd : Addr} {es : Array DictEntry} {ep : Nat} (X : (K0 w.params).In s.heap) (hd : s.heap.get? D = some { cls := .ref 282, dict := some Dd, data := .dict es ep, slots := #[] }) :
    wpAny (model PySem.Challenge.rw_bl0007_01.row.prog w) A9 (PySem.call (.builtin "dict.items") [.ref D]) (Made s fun o => o = { cls := .type "dict_items", dict := none, data := .fields #[.ref D], slots := #[] }) E s := by
  unfold PySem.call Made
  x_run
theorem x_piter {w : World} {E : Value → Shared → Prop} {s : Shared} {v D Dd : Addr} {es : Array DictEntry} {ep : Nat} (X : (K0 w.params).In s.heap) (hv : s.heap.get? v = some { cls := .type "dict_items", dict := none, data := .fields #[.ref D], slots := #[] }) (hd : s.heap.get? D = some { cls := .ref 282, dict := some Dd, data := .dict es ep, slots := #[] }) :
    wpAny (model PySem.Challenge.rw_bl0007_01.row.prog w) A9 (PySem.call (.builtin "iter") [.ref v]) (Made s fun o => o = { cls := .type "dict_itemiterator", dict := none, data := .fields #[.none, .bool false, .ref D, .int 0 0, .int es.size 0, .int ep 0, .none, .none], slots := #[] }) E s := by
  unfold PySem.call Made
  x_run
end Mine
namespace Mine
section
variable {prog : Program} {w : World} {A : Around} {E : Value → Shared → Prop} {s : Shared} {K : Frag} {x C Dd : Addr} {ox : Obj} {name : Str} {Q : Value × List Value → Shared → Prop}
theorem ty_items : typeOf (.builtin "dict.items") = pure (.type "method_descriptor") := by show builtinType _ = _; rw [builtinType_eq_fast]; kernel_rfl
/-- x.name, a method of dict itself, x an object of a subclass with nothing of its own -/
theorem pob_getm {pl : Sem Bool} {id : String} (X : K.In s.heap) (I : InstAt s.heap x ox C (some dict0)) (hod : ox.dict = some Dd) (hDd : s.heap.get? Dd = some dict0) (hga : findIn K (.ref C) "__getattribute__" = some (some (.builtin "dict.__getattribute__"))) (hgn : findIn K (.ref C) "__getattr__" = some none)
    (hm : findIn K (.ref C) name = some (some (.builtin id))) (hty : typeOf (.builtin id) = pure (.type "method_descriptor")) (h : Q (.builtin id, [.ref x]) s) :
    wpAny (model prog w) A (getMethod (.ref x) name pl) Q E s := by
  have T := I.type (M := model prog w)
  have G1 := looks_findIn (M := model prog w) X hga
  have G2 := looks_findIn (M := model prog w) X hgn
  have G3 := looks_findIn (M := model prog w) X hm
  have hcan : (Manifest.canonical "dict.__getattribute__" != "object.__getattribute__") = false := by first | rfl | kernel_rfl | decide +kernel
  unfold getMethod specialOf
  refine wpAny_bind (wpAny_bind (T.here (G1.here ?_)))
  dsimp only
  rw [if_neg (by rw [hcan]; exact Bool.false_ne_true)]
  refine wpAny_bind (wpAny_bind (T.here (G2.here ?_)))
  rw [if_neg (by decide)]
  refine wpAny_bind (wpAny_bind (T.here (G3.here ?_)))
  dsimp only
  refine wpAny_bind (wpAny_of_eq hty ?_)
  rw [if_neg (by decide)]
  refine wpAny_bind (wpAny_loadPart I.at_ ?_)
  rw [hod]
  dsimp only
  have hns : s.heap.Ns Dd (fun _ => none) := ⟨dict0, #[], 0, hDd, rfl, (fun _ h => by simp at h), fun _ => rfl⟩
  refine wpAny_bind (wpAny_nsGet hns ?_)
  rw [if_neg (by decide)]
  exact wpAny_bind (wpAny_rule (wpAny_pure h))
end
end Mine
end
/-! part Gpr -/
section
theorem Mine.startGpr : True := by
  w_top off
  exact trivial
local macro_rules | `(tactic| walk_at "pad0") => `(tactic| skip)
open PySem PySem.W PyProof.Rows PySem.Calls PySem.Spec
set_option Elab.async false
set_option pp.deepTerms false
set_option pp.maxSteps 3000
set_option maxRecDepth 100000
namespace Mine
open DS
def unUV : UV → UV
  | .one x => .one (unT x)
  | .many xs => .many (xs.map unT)
def UVlen : UV → Prop
  | .one x => x.length ≤ 1000
  | .many xs => xs.length ≤ 1000 ∧ ∀ x ∈ xs, x.length ≤ 1000
def UVin (h : Heap) : UV → Value → Prop
  | .one x, v => ∃ t, v = .str x t
  | .many xs, v => ∃ b ys n, v = .ref b ∧ h.get? b = some (listOf ys.toArray n) ∧ StrsAre ys xs
theorem ents_kv : ∀ {es : List DictEntry} {kvs : List (Str × Value)} {i : Nat} {e : DictEntry}, Ents es kvs → es[i]? = some e → ∃ k v t, kvs[i]? = some (k, v) ∧ e.key = .str k t ∧ e.val = v
  | _, _, _, _, .nil, h => by simp at h
  | _, _, 0, _, .cons x t hs v _, h => by
    simp only [List.getElem?_cons_zero, Option.some.injEq] at h
    subst h
    exact ⟨x, v, t, rfl, rfl, rfl⟩
  | _, _, i + 1, _, .cons _ _ _ _ r, h => by
    simp only [List.getElem?_cons_succ] at h ⊢
    exact ents_kv r h
theorem uvals_kv {ls : List (Addr × Obj)} : ∀ {xs : List (Str × UV)} {kvs : List (Str × Value)} {i : Nat} {k : Str} {v : Value}, UVals ls xs kvs → kvs[i]? = some (k, v) → ∃ u, xs[i]? = some (k, u) ∧ UVal ls u v
  | _, _, _, _, _, .nil, h => by simp at h
  | _, _, 0, _, _, .cons a _, h => by
    simp only [List.getElem?_cons_zero, Option.some.injEq, Prod.mk.injEq] at h
    obtain ⟨rfl, rfl⟩ := h
    exact ⟨_, rfl, a⟩
  | _, _, i + 1, _, _, .cons _ r, h => by
    simp only [List.getElem?_cons_succ] at h ⊢
    exact uvals_kv r h
theorem uvals_len {ls : List (Addr × Obj)} : ∀ {xs : List (Str × UV)} {kvs : List (Str × Value)}, UVals ls xs kvs → kvs.length = xs.length
  | _, _, .nil => rfl
  | _, _, .cons _ r => by simp [uvals_len r]
section
variable {w : World} {mean : ExcName → Option Value} {mg mb : Str → Option Value} {A : Around} {s : Shared} {E : Value → Shared → Prop}
theorem elt_pair {cenv : Env} {m₂ : Str → Option Value} {q1 q2 q3 q4 q5 q6 q7 : Pos} {kt : Nat} {k : Str} {t : Tok} {v : Value} {u : UV} {xs : List (Str × UV)} {i : Nat}
    (X : (K0 w.params).In s.heap) (T : Top hd.view_39 loos mean mg mb s.heap) (hd1 : A.depth + 40 < recursionLimit) (hh : A.handled = none)
    (hn : s.heap.Ns cenv.locals m₂) (hk : m₂ (Str.ofString "key") = some (.str k t)) (hv : m₂ (Str.ofString "value") = some v) (hu : UVin s.heap u v) (hkl : k.length ≤ 1000) (hul : UVlen u)
    (hkind : cenv.scope.kind = .function) (hgl : cenv.globals = mainGlobals) (hk1 : cenv.kindOf (Str.ofString "key") = some .local) (hk2 : cenv.kindOf (Str.ofString "value") = some .local)
    (hk3 : cenv.kindOf (Str.ofString "_unescape_string") = some .globalImplicit) (hk4 : cenv.kindOf (Str.ofString "unescape_list_or_string") = some .globalImplicit)
    (hxs : xs[i]? = some (unT k, unUV u)) :
    wpAny (model PySem.Challenge.rw_bl0007_01.row.prog w) A (eval (.Tuple [.Call (.Name (Str.ofString "_unescape_string") q1) [.Name (Str.ofString "key") q2] [] q3, .Call (.Name (Str.ofString "unescape_list_or_string") q4) [.Name (Str.ofString "value") q5] [] q6] kt q7) cenv)
      (fun y s₃ => (∃ la, PairP (F2 xs) i y s₃.heap la ∧ ∀ b ∈ la, s.heap.get? b = none) ∧ Keeps s s₃) E s := by
  revert X; k_fill; intro X
  have g1 : mg (Str.ofString "_unescape_string") = some (.ref 191) := mg_of X T.g (by k_is)
  have g2 : mg (Str.ofString "unescape_list_or_string") = some (.ref 296) := mg_of X T.g (by k_is)
  refine Tuple_ ?_
  refine spliced_more ?_
  refine Call_Name rfl ?_
  refine Name_function_global hkind hk3 (loadGlobal_global (by rw [hgl]; exact T.g) g1 ?_)
  refine callWith_K (K := K0 w.params) X (by k_is) ?_
  refine spliced_more ?_
  refine wpAny_Name (wpAny_loadName_local hkind hk1 hn hk (spliced_none ⟨X, ?_⟩)) (by decide)
  refine unesc_w X T (by omega) hkl fun t1 h1 tk1 k1 => ?_
  refine spliced_more ?_
  refine Call_Name rfl ?_
  have X1 := X.keeps k1
  have T1 := T.keeps k1
  refine Name_function_global hkind hk4 (loadGlobal_global (by rw [hgl]; exact T1.g) g2 ?_)
  refine callWith_K (K := K0 w.params) X1 (by k_is) ?_
  refine spliced_more ?_
  refine wpAny_Name (wpAny_loadName_local hkind hk2 (hn.keeps k1) hv (spliced_none ⟨X1, ?_⟩)) (by decide)
  cases u with
  | one x =>
    obtain ⟨t0, rfl⟩ := hu
    refine ulos_s X1 T1 (by omega) hul fun t2 h2 tk2 k2 => ?_
    refine spliced_none ?_
    refine wpAny_newTuple ?_
    refine ⟨⟨[], ⟨_, _, _, rfl, ⟨_, Heap.get?_push_size _ rfl, rfl, _, rfl⟩, _, _, _, hxs, rfl, _, rfl⟩, fun b hb => nomatch hb⟩, _, _, rfl, fun b o e => Heap.get?_push_of_some _ (k2 _ _ (k1 _ _ e))⟩
  | many zs =>
    obtain ⟨b, ys, n, rfl, hb, hys⟩ := hu
    refine ulos_l X1 T1 (by omega) hh ⟨_, k1 _ _ hb, rfl, _, rfl⟩ hys hul.1 hul.2 fun D ys2 h2 tk2 k2 hD0 hD hys2 => ?_
    refine spliced_none ?_
    refine wpAny_newTuple ?_
    refine ⟨⟨[D], ⟨_, _, _, rfl, ⟨_, Heap.get?_push_size _ rfl, rfl, _, rfl⟩, _, _, _, hxs, rfl, D, _, _, rfl, .head _, Heap.get?_push_of_some _ hD, hys2⟩, fun b hb => ?_⟩, _, _, rfl, fun b o e => Heap.get?_push_of_some _ (k2 _ _ (k1 _ _ e))⟩
    rw [List.mem_singleton.mp hb]
    cases z : s.heap.get? D with
    | none => rfl
    | some o => have := k1 _ _ z; dsimp only at hD0; rw [hD0] at this; cases this
theorem uval_in {h₀ h : Heap} {L : Addr} {ls : List (Addr × Obj)} {u : UV} {v : Value} (N : News h₀ L h ls) (x : UVal ls u v) : UVin h u v := by
  cases u with
  | one x' => exact x
  | many xs =>
    obtain ⟨b, ys, n, rfl, hm, hs⟩ := x
    exact ⟨b, ys, n, rfl, (N _ hm).1, hs⟩
/-- the generator over a dict's items, each pair unescaped -/
theorem gen_pairs {Q : Value → Shared → Prop} {env : Env} {iter : Expr} {q1 q2 q3 q4 q5 q6 q7 pa pb pt pos : Pos} {kt kt2 : Nat} {scope : Scope} {G : Heap} {L c P D Dd : Addr} {m mg bm} {ob oT : Obj} {es : Array DictEntry} {ep : Nat} {ls news : List (Addr × Obj)} {kvs : List (Str × Value)} {kus : List (Str × UV)} {mgx : Str → Option Value}
    (F : Fr G L s.heap m) (N : News G L s.heap ((P, oT) :: ((D, pob 282 Dd es ep) :: (ls ++ news)))) (hneP : ∀ p ∈ (D, pob 282 Dd es ep) :: (ls ++ news), p.1 ≠ P) (hneD : ∀ p ∈ news, p.1 ≠ D) (hls : ∀ p ∈ ls, (∀ q ∈ news, q.1 ≠ p.1) ∧ ∃ ys n, p.2 = listOf ys n)
    (X : (K0 w.params).In G) (T : Top hd.view_39 loos mean mg mb G) (M : BMod G env.globals mgx bm ob) (hgl : env.globals = mainGlobals)
    (he : Ents es.toList kvs) (hv : UVals ls kus kvs) (hul : ∀ p ∈ kus, p.1.length ≤ 1000 ∧ UVlen p.2)
    (hIs : ∀ (h : Heap) (o : Obj) (ps : Array Value), (∀ b ob, G.get? b = some ob → h.get? b = some ob) → h.get? P = some o → o.data = .fields ps → TriplesOk ps.toList → h.IsCode c P ps)
    (hT : TabLike oT) (hcode : env.code = .ref c)
    (hh : A.handled = none) (hco : scope.isCoroutine = false) (hclos : closureFor scope env = pure []) (hcell : ∀ y ∈ scope.names, y.2 ≠ .cell) (h0 : scope.names.lookup (".0" : Str) = some NameKind.local)
    (hxa : scope.names.lookup (Str.ofString "key") = some .local) (hxb : scope.names.lookup (Str.ofString "value") = some .local)
    (hxc : (scope.names.lookup (Str.ofString "_unescape_string") = some .globalImplicit)) (hxd : (scope.names.lookup (Str.ofString "unescape_list_or_string") = some .globalImplicit)) (hkind : scope.kind = .function) (hroom : A.depth < recursionLimit)
    (hread : wpAny (model PySem.Challenge.rw_bl0007_01.row.prog w) A (eval iter env) (fun v s' => ∃ I h' tk', v = .ref I ∧ s' = { s with heap := h', toks := tk' } ∧ (∀ b o, s.heap.get? b = some o → h'.get? b = some o) ∧ s.heap.get? I = none ∧ h'.get? I = some (itObj D 0 es.size ep .none .none .none)) E s)
    (hQ : ∀ gn gl h' tk' gs oT', TabLike oT' → gs.bare = true → Fr G L h' m → News G L h' ((P, oT') :: (gl ++ news)) → (∀ p ∈ news, ∀ q ∈ gl, p.1 ≠ q.1) → (∀ p ∈ gl ++ news, p.1 ≠ P) → (∀ p ∈ gl, p.2.cls ≠ .type "dict" ∨ ∀ ep, p.2.data ≠ .dict #[] ep) →
      GenIn w G { s with gens := s.gens.push gs, toks := tk', heap := h' } gn gl (kus.map fun p => (unT p.1, unUV p.2)) → Q (.ref gn) { s with gens := s.gens.push gs, toks := tk', heap := h' })
    (hs : ∀ x, genFold iter env x = pure x) :
    wpAny (model PySem.Challenge.rw_bl0007_01.row.prog w) A (eval (.GeneratorExp (.Tuple [.Call (.Name (Str.ofString "_unescape_string") q1) [.Name (Str.ofString "key") q2] [] q3, .Call (.Name (Str.ofString "unescape_list_or_string") q4) [.Name (Str.ofString "value") q5] [] q6] kt q7) [⟨.Tuple [.Name (Str.ofString "key") pa, .Name (Str.ofString "value") pb] kt2 pt, iter, [], 0⟩] scope pos) env) Q E s := by
  obtain ⟨ps, rfl, hTt⟩ := hT
  have hP := (N _ (.head _)).1
  have hGP : G.get? P = none := (N _ (.head _)).2.2
  have hPL : P ≠ L := (N _ (.head _)).2.1
  have hPlt : P < s.heap.objs.size := Heap.lt_size hP
  have keepG : ∀ {h' : Heap}, (∀ b o, b ≠ P → s.heap.get? b = some o → h'.get? b = some o) → ∀ b ob, G.get? b = some ob → h'.get? b = some ob := fun {h'} hk b ob e => hk b ob (fun q => by rw [q, hGP] at e; cases e) (F.keep b ob e)
  refine GeneratorExp_H (B := A9) rfl (by decide) hh hco hclos hcell h0 hxa hxb (by decide) hkind hroom (wpAny_mono hread (fun v s1 hv1 => ?_) fun _ _ e => e) hs
  obtain ⟨I, h1, tk1, rfl, rfl, k1, hI0, hI1⟩ := hv1
  have hIP : I ≠ P := fun e => by rw [e, hP] at hI0; cases hI0
  refine kcp_self (show IsItemIter h1 I D (0 : Nat) es.size ep .none .none from hI1) ?_
  have nl : ∀ {h' : Heap}, (∀ b o, b ≠ P → s.heap.get? b = some o → h'.get? b = some o) → h'.NoLimit := fun {h'} hk => T.nolimit.keeps (keepG hk)
  refine ⟨nl fun b o _ e => k1 b o e, ?_⟩
  refine genexprCodeT hcode (hIs _ (tabObj ps) ps (keepG fun b o' _ e => k1 b o' e) (k1 _ _ hP) rfl hTt) (k1 _ _ hP) fun code h2 tk2 ps' hx2 hI2 hIP2 => ?_
  obtain ⟨oT', hP', hT'⟩ := tab_grown (h := h2) hI2 hIP2
  have k2 : ∀ b o', b ≠ P → s.heap.get? b = some o' → h2.get? b = some o' := fun b o' hb e => hx2 b o' hb (k1 b o' e)
  have hI2' : h2.get? I = some (itObj D 0 es.size ep .none .none .none) := hx2 _ _ hIP hI1
  have M' := M.keeps (keepG k2)
  refine wpAny_builtinsFor M'.ns M'.name M'.ne M'.obj M'.cls M'.dict M'.data ?_
  have hD := (N _ (.tail _ (.head _))).1
  have hDP : D ≠ P := hneP _ (.head _)
  have hDI : D ≠ I := fun e => by rw [← e] at hI0; dsimp only at hD; rw [hD] at hI0; cases hI0
  have hlive : ∀ b o, b ≠ P → s.heap.get? b = some o → b < h2.objs.size := fun b o hb e => Heap.lt_size (k2 b o hb e)
  let gr : List Addr := (List.range G.objs.size).filter fun b => (G.get? b).isSome
  have hgr : ∀ b o, G.get? b = some o → b ∈ gr := fun b o e => List.mem_filter.mpr ⟨List.mem_range.mpr (Heap.lt_size e), by rw [e]; rfl⟩
  have hgr' : ∀ b ∈ gr, ∃ o, G.get? b = some o := fun b hb => Option.isSome_iff_exists.mp (List.mem_filter.mp hb).2
  obtain ⟨hcs0, hcsG⟩ : ∃ o, G.get? cStatics = some o := by
    obtain ⟨_, hns, _⟩ := T.nolimit
    obtain ⟨o9, _, _, e9, _⟩ := hns
    exact ⟨o9, e9⟩
  have hnI : ∀ b o, s.heap.get? b = some o → b ≠ I := fun b o e z => by rw [z, hI0] at e; cases e
  refine ⟨I, [I, D], [I], es.size, _, _, _, PairP (F2 (kus.map fun p => (unT p.1, unUV p.2))), I :: D :: (gr ++ ls.map (·.1)), rfl, fun A' hA => WalksU.itemsP hA I D hDI (pob 282 Dd es ep) es ep rfl, ?_, ?_, ?_, ?_, ?_, ?_, nl k2, ?_, ?_, ?_⟩
  · rintro i h ⟨_, ok, ov, e⟩ b hb
    rw [List.mem_singleton.mp hb]
    exact ⟨_, e⟩
  · intro b hb
    rcases List.mem_cons.mp hb with rfl | hb
    · exact .head _
    · rw [List.mem_singleton.mp hb]; exact .tail _ (.head _)
  · exact .tail _ (.tail _ (List.mem_append.mpr (.inl (hgr _ _ hcsG))))
  · rintro i vals ⟨e, _, rfl⟩
    exact ⟨_, _, rfl⟩
  · exact ⟨k2 _ _ hDP hD, _, _, hI2'⟩
  · intro b hb
    rcases List.mem_cons.mp hb with rfl | hb
    · exact Heap.lt_size hI2'
    rcases List.mem_cons.mp hb with rfl | hb
    · exact hlive _ _ hDP hD
    rcases List.mem_append.mp hb with hb | hb
    · obtain ⟨o, e⟩ := hgr' b hb
      exact Heap.lt_size (keepG k2 b o e)
    · obtain ⟨p, hp, rfl⟩ := List.mem_map.mp hb
      exact hlive _ _ (hneP p (by simp [hp])) (N p (by simp [hp])).1
  · rw [List.mem_singleton]
    exact hnI _ _ (F.keep _ _ hcsG)
  · intro href hk
    refine ⟨fun A' E' i va vb s₂ m₂ hA hAd hAu hPt hn ha hb hkp _ => ?_⟩
    obtain ⟨e, hei, hve⟩ := hPt
    have e1 : va = e.key := by have := congrArg (fun a : Array Value => a[0]?) hve; simpa using this
    have e2 : vb = e.val := by have := congrArg (fun a : Array Value => a[1]?) hve; simpa using this
    obtain ⟨k, v, t, hkv, ek, ev⟩ := ents_kv he (by simpa using hei)
    obtain ⟨u, hku, huv⟩ := uvals_kv hv hkv
    have kG : ∀ b o, G.get? b = some o → s₂.heap.get? b = some o := fun b o e => hkp b (by simp [hgr b o e]) (by rw [List.mem_singleton]; exact hnI _ _ (F.keep _ _ e)) o (hk _ _ (keepG k2 b o e))
    have kL : ∀ p ∈ ls, s₂.heap.get? p.1 = some p.2 := fun p hp => hkp p.1 (by simp only [List.mem_cons, List.mem_append, List.mem_map]; exact .inr (.inr (.inr ⟨p, hp, rfl⟩))) (by rw [List.mem_singleton]; exact hnI _ _ (N p (by simp [hp])).1) p.2 (hk _ _ (k2 _ _ (hneP p (by simp [hp])) (N p (by simp [hp])).1))
    have hkm := hul (k, u) (List.mem_of_getElem? hku)
    refine elt_pair (k := k) (t := t) (v := v) (u := u) (X.keeps kG) (T.keeps kG) ?hdd hA hn (by rw [ha, e1, ek]) (by rw [hb, e2, ev]) ?hui hkm.1 hkm.2 hkind hgl ?_ ?_ ?_ ?_ (by rw [List.getElem?_map, hku]; rfl)
    case hdd =>
      have : A'.depth ≤ 901 := hAd
      have : recursionLimit = 1000 := rfl
      omega
    case hui =>
      cases u with
      | one x' => exact huv
      | many xs =>
        obtain ⟨b, ys, n, rfl, hm, hs⟩ := huv
        exact ⟨b, ys, n, rfl, kL _ hm, hs⟩
    · exact hxa
    · exact hxb
    · exact hxc
    · exact hxd
  · intro a h5 tk gs hgb hag hsz5 hk5 hgo W5 hns5 hat
    have k25 : ∀ b o, b ≠ P → s.heap.get? b = some o → h5.get? b = some o := fun b o hb e => hk5 _ _ (k2 b o hb e)
    have F5 := fr_but hPL hGP F k25
    obtain ⟨oC, esC, epC, hoC, hdC, hsC, hfC⟩ := hns5
    have hCnone : ∀ b o, s.heap.get? b = some o → b ≠ h2.objs.size := fun b o e z => by
      by_cases hb : b = P
      · rw [hb] at z
        have := Heap.lt_size hP'
        exact absurd z (Nat.ne_of_lt this)
      · exact absurd z (Nat.ne_of_lt (hlive b o hb e))
    have hanone : ∀ b o, s.heap.get? b = some o → b ≠ a := fun b o e z => by
      by_cases hb : b = P
      · have := Heap.lt_size hP'
        rw [← hb] at this
        exact absurd z (Nat.ne_of_lt (Nat.lt_trans this hag))
      · exact absurd z (Nat.ne_of_lt (Nat.lt_trans (hlive b o hb e) hag))
    have hLe : ∃ o, s.heap.get? L = some o := by
      obtain ⟨o, _, _, e, _⟩ := F.ns
      exact ⟨o, e⟩
    obtain ⟨oL, hL⟩ := hLe
    have hGn : ∀ x, (∀ b o, s.heap.get? b = some o → b ≠ x) → x ≠ L ∧ G.get? x = none := fun x hx => by
      refine ⟨fun e => hx _ _ hL e.symm, ?_⟩
      cases z : G.get? x with
      | none => rfl
      | some o => exact absurd rfl (hx _ _ (F.keep _ _ z))
    have hII : ∀ b o, s.heap.get? b = some o → b ≠ I := hnI
    have hlen : es.size = (kus.map fun p => (unT p.1, unUV p.2)).length := by
      rw [List.length_map, ← uvals_len hv, ← he.len, Array.length_toList]
    have haC : a ≠ h2.objs.size := Nat.ne_of_gt hag
    have haI : a ≠ I := fun e => by
      have := Heap.lt_size hI2'
      rw [← e] at this
      exact absurd this (Nat.lt_asymm hag)
    obtain ⟨og, hgo', g0, nm0, t0, qn0, t1, eog⟩ : ∃ og, h5.get? a = some og ∧ ∃ g nm t qn t', og = ({ cls := .type "generator", dict := none, data := .fields #[.int g 0, .str nm t, .str qn t'], slots := #[] } : Obj) := ⟨_, hgo, _, _, _, _, _, rfl⟩
    refine hQ a ((a, og) :: (h2.objs.size, oC) :: (I, itObj D 0 es.size ep .none .none .none) :: (D, pob 282 Dd es ep) :: ls) h5 tk gs oT' hT' hgb F5 ?_ ?_ ?_ ?_ ⟨⟨g0, nm0, t0, qn0, t1, by rw [← eog]; exact .head _⟩, a :: h2.objs.size :: I :: D :: (gr ++ ls.map (·.1)), h2.objs.size :: [I], GenOnlyQ s.gens.size, _, by rw [← hlen]; exact W5, fun x => .inl rfl, fun x y z => GenOnlyQ.trans, fun x y hx hy => AllBare.moved hy hx, fun i st hst => ⟨_, hst.1⟩, fun i st hst => hst.2.2.1, ?_, ?_, ?_, hat⟩
    · intro p hp
      simp only [List.cons_append, List.mem_cons, List.mem_append] at hp
      rcases hp with h | h | h | h | h | h | h
      · rw [h]; exact ⟨hk5 _ _ hP', hPL, hGP⟩
      · rw [h]; exact ⟨hgo', hGn a hanone⟩
      · rw [h]; exact ⟨hoC, hGn _ hCnone⟩
      · rw [h]; exact ⟨hk5 _ _ hI2', hGn _ hII⟩
      · rw [h]; exact ⟨k25 _ _ hDP hD, (N (D, pob 282 Dd es ep) (by simp)).2⟩
      · exact ⟨k25 _ _ (hneP p (by simp [h])) (N p (by simp [h])).1, (N p (by simp [h])).2⟩
      · exact ⟨k25 _ _ (hneP p (by simp [h])) (N p (by simp [h])).1, (N p (by simp [h])).2⟩
    · intro p hp q hq
      have hpl := (N p (by simp [hp])).1
      simp only [List.mem_cons] at hq
      rcases hq with h | h | h | h | h
      · rw [h]; exact hanone _ _ hpl
      · rw [h]; exact hCnone _ _ hpl
      · rw [h]; exact hII _ _ hpl
      · rw [h]; exact hneD p hp
      · exact (hls q h).1 p hp
    · intro p hp
      simp only [List.cons_append, List.mem_cons, List.mem_append] at hp
      rcases hp with h | h | h | h | h | h
      · rw [h]; exact fun e => hanone _ _ hP e.symm
      · rw [h]; exact fun e => hCnone _ _ hP e.symm
      · rw [h]; exact hIP
      · rw [h]; exact hDP
      · exact hneP p (by simp [h])
      · exact hneP p (by simp [h])
    · intro p hp
      simp only [List.mem_cons] at hp
      rcases hp with h | h | h | h | h
      · rw [h, eog]; exact .inl (by simp)
      · rw [h]
        refine .inr fun ep' e => ?_
        dsimp only at e
        rw [hdC] at e
        have e9 : esC = #[] := by injection e
        have := hfC ".0"
        rw [e9] at this
        exact nomatch (this : (none : Option Value) = some (.ref I))
      · rw [h]; exact .inl (by simp)
      · rw [h]; exact .inl (by simp [pob])
      · obtain ⟨_, ys, n, e⟩ := hls p h
        rw [e]; exact .inl (by simp [PySem.W.listOf])
    · intro b hb
      simp only [List.mem_cons, List.mem_append, List.mem_map] at hb
      rcases hb with h | h | h | h | h | ⟨p, hp, h⟩
      · exact .inr (by simp [h])
      · exact .inr (by simp [h])
      · exact .inr (by simp [h])
      · exact .inr (by simp [h])
      · exact .inl (hgr' b h)
      · exact .inr (by simp only [List.map_cons, List.mem_cons, List.mem_map]; exact .inr (.inr (.inr (.inr ⟨p, hp, h⟩))))
    · intro b hb
      simp only [List.mem_cons, List.not_mem_nil, or_false] at hb
      rcases hb with h | h <;> simp [h]
    · intro hm
      simp only [List.mem_cons, List.not_mem_nil, or_false] at hm
      rcases hm with h | h
      · exact haC h
      · exact haI h
end
end Mine
end
/-! part Xfmt -/
section
theorem Mine.startXfmt : True := by
  w_top off
  exact trivial
open PySem PySem.W PyProof.Rows PySem.Calls PySem.Spec
set_option Elab.async false
set_option pp.deepTerms false
set_option pp.maxSteps 6000
set_option maxRecDepth 100000
namespace Mine
abbrev Ah (e : Addr) : Around := ⟨some (.ref e), 900, none, none, 9000⟩
def GotS (s : Shared) (y : Str) (v : Value) (s' : Shared) : Prop := ∃ t h' tk, v = .str y t ∧ s' = { s with heap := h', toks := tk } ∧ ∀ b o, s.heap.get? b = some o → h'.get? b = some o
local macro_rules | `(tactic| x_close) => `(tactic| first | exact ⟨_, _, _, rfl, rfl, mem_old (by assumption)⟩ | exact ⟨_, _, _, rfl, rfl, fun _ _ e => e⟩)
theorem x_fmt {w : World} {E : Value → Shared → Prop} {s : Shared} {x Dx e : Addr} {y : Str} {t' t0 : Tok} {b : Bool} (X : (K0 w.params).In s.heap) (hy : y.length ≤ 1000) (hx : s.heap.get? x = some { cls := .ref 395, dict := some Dx, data := .prim (.str y t'), slots := #[some (.bool b)] }) :
    wpAny (model PySem.Challenge.rw_bl0007_01.row.prog w) (Ah e) (PySem.call (.builtin "str.__format__") [.ref x, .str Str.empty t0]) (GotS s y) E s := by
  unfold PySem.call GotS
  x_run
theorem fmt_self {w : World} {A : Around} {E : Value → Shared → Prop} {s : Shared} {x Dx e : Addr} {y : Str} {t' : Tok} {b : Bool} {Q : Value → Shared → Prop} (hh : A.handled = some (.ref e)) (hd : A.depth ≤ 900) (hu : A.units ≤ 9000) (X : (K0 w.params).In s.heap) (hy : y.length ≤ 1000)
    (I : InstAt s.heap x (clob Dx y t' #[some (.bool b)]) 395 (some dict0)) (hfm : findIn (K0 w.params) (.ref 395) (Str.ofString "__format__") = some (some (.builtin "str.__format__")))
    (hq : ∀ t h' tk, (∀ b o, s.heap.get? b = some o → h'.get? b = some o) → Q (.str y t) { s with heap := h', toks := tk }) :
    wpAny (model PySem.Challenge.rw_bl0007_01.row.prog w) A (formatField (.ref x) Str.empty) Q E s := by
  show wpAny _ _ (holding [.ref x] (pyFormat (.ref x) Str.empty)) Q E s
  refine wpAny_holding ?_
  unfold pyFormat
  refine wpAny_bind (wpAny_mkStr ?_)
  have T := I.type (M := model PySem.Challenge.rw_bl0007_01.row.prog w)
  have G := looks_findIn (M := model PySem.Challenge.rw_bl0007_01.row.prog w) X hfm
  refine wpAny_bind (m := callSpecial? (.ref x) (Str.ofString "__format__") [.str Str.empty s.toks]) ?_
  unfold callSpecial? specialOf
  refine wpAny_bind (wpAny_bind (Looks.here (s := { s with toks := s.toks + 1 }) T (Looks.here (s := { s with toks := s.toks + 1 }) G ?_)))
  dsimp only
  refine wpAny_holding (wpAny_bind (wpAny_of_eq (PySem.F.slot_str_format.bind _) ?_))
  refine wpAny_bind (wpAny_up (A' := Ah e) (wpAny_mono (x_fmt (s := { s with toks := s.toks + 1 }) X hy I.at_) (fun v s' hv => ?_) fun _ _ z => z) hh hd hu (fun _ e => nomatch e) (fun _ e => nomatch e))
  obtain ⟨t, h', tk, rfl, rfl, k⟩ := hv
  refine wpAny_pure ?_
  dsimp only
  exact wpAny_bind (wpAny_isInstance (T := "str") (b := true) rfl isSubtype_str_str (wpAny_pure (hq t h' tk k)))
end Mine
end
/-! part Raw -/
section
theorem Mine.startRaw : True := by
  w_top off
  exact trivial
local macro_rules | `(tactic| walk_at "pad0") => `(tactic| skip)
open PySem PySem.W PyProof.Rows PySem.Calls PySem.Spec
set_option Elab.async false
set_option maxRecDepth 100000
namespace Mine
/-! where the name and the value of a line end -/
structure SPS where
  ns : Option Nat
  vs : Option Nat
  q : Bool
  e : Bool
def spB (b34 b92 bo b58 : Bool) (i : Nat) (σ : SPS) : SPS :=
  if b34 && !σ.e then ⟨σ.ns, σ.vs, !σ.q, false⟩
  else if b92 && !σ.q then ⟨σ.ns, σ.vs, σ.q, true⟩
  else if !σ.q && !σ.e then ⟨if bo && σ.ns.isNone then some i else σ.ns, if b58 && σ.vs.isNone then some i else σ.vs, σ.q, false⟩
  else ⟨σ.ns, σ.vs, σ.q, false⟩
def spT (i c : Nat) (σ : SPS) : SPS :=
  spB (S [c] == Str.ofString "\"") (S [c] == Str.ofString "\\") (!(Builtin.Str.occurrences (Str.ofString ":;") (S [c]) 0 (Str.ofString ":;").length 1).isEmpty) (S [c] == Str.ofString ":") i σ
def spF : List Nat → Nat → SPS → SPS
  | [], _, σ => σ
  | c :: r, i, σ => spF r (i + 1) (spT i c σ)
def OptAt (m : Str → Option Value) (n : Str) : Option Nat → Prop
  | none => m n = some .none
  | some k => ∃ t, m n = some (.int k t)
structure SPM (m : Str → Option Value) (x : Addr) (σ : SPS) : Prop where
  self : m (Str.ofString "self") = some (.ref x)
  ns : OptAt m (Str.ofString "name_split") σ.ns
  vs : OptAt m (Str.ofString "value_split") σ.vs
  q : m (Str.ofString "in_quotes") = some (.bool σ.q)
  e : m (Str.ofString "escaped") = some (.bool σ.e)
  both : σ.ns = none → σ.vs = none
/-- the value of a place that may not be found -/
def OptV (o : Option Nat) (v : Value) : Prop := (o = none ∧ v = .none) ∨ ∃ (k : Nat) (t : Tok), o = some k ∧ v = .int k t
theorem OptAt.val {m : Str → Option Value} {n : Str} {o : Option Nat} (h : OptAt m n o) : ∃ v, m n = some v ∧ OptV o v := by
  cases o with
  | none => exact ⟨_, h, .inl ⟨rfl, rfl⟩⟩
  | some k =>
    obtain ⟨t, ht⟩ := h
    exact ⟨_, ht, .inr ⟨k, t, rfl, rfl⟩⟩
theorem OptAt.back {m : Str → Option Value} {n : Str} {o : Option Nat} {v : Value} (h : m n = some v) (hv : OptV o v) : OptAt m n o := by
  rcases hv with ⟨rfl, rfl⟩ | ⟨k, t, rfl, rfl⟩
  · exact h
  · exact ⟨t, h⟩
theorem is_optv {prog : Program} {w : World} {A : Around} {E : Value → Shared → Prop} {s : Shared} {o : Option Nat} {v : Value} {Q : Value → Shared → Prop} (h : OptV o v) (hq : Q (.bool o.isNone) s) : wpAny (model prog w) A (compareOp .Is v .none) Q E s := by
  rcases h with ⟨rfl, rfl⟩ | ⟨k, t, rfl, rfl⟩
  · walk1
    exact hq
  · walk1
    exact hq
/-- the name as it is told -/
def nameT (b : Bool) (z : List Nat) (k : Nat) : Str := if b then S (z.take k) else Txt.replace (Txt.replace (Txt.strip (S (z.take k))) (Str.ofString " ") (Str.ofString "")) (Str.ofString "\t") (Str.ofString "")
/-- the parameters' text -/
noncomputable def rawT (b : Bool) (z : List Nat) (k v : Nat) : Str := if b then S ((z.take v).drop (k + 1)) else stripF ((z.take v).drop (k + 1))
def escT (x : Str) : Str := Txt.replace (Txt.replace (Txt.replace (Txt.replace (Txt.replace x (Str.ofString "%") (Str.ofString "%25")) (Str.ofString "\\,") (Str.ofString "%2C")) (Str.ofString "\\:") (Str.ofString "%3A")) (Str.ofString "\\;") (Str.ofString "%3B")) (Str.ofString "\\\\") (Str.ofString "%5C")
section Sp
local macro_rules | `(tactic| walk_at "call type:ValueError") => `(tactic| refine TEnd.out ?_)
local macro_rules | `(tactic| walk_at "exec For") => `(tactic| refine TEnd.out ?_)
local macro_rules | `(tactic| walk_at "exec For Tuple Call cons nil") => `(tactic| refine TEnd.out ?_)
local macro_rules | `(tactic| walk_at "call type:enumerate") => `(tactic| refine TEnd.out ?_)
local macro_rules | `(tactic| walk_at "subscriptTail") => `(tactic| ((with_reducible show wpAny _ _ (subscriptTail _ _ (Value.ref _) _) _ _ _); refine TEnd.out ?_))
local macro_rules | `(tactic| walk_at "call builtin:str.replace") => `(tactic| (refine repl_r (by first | omega | ((show @Ne Nat _ _); omega)) (by first | omega | ((show @Ne Nat _ _); omega)) (by first | omega | ((show @Ne Nat _ _); omega)) (by decide) (by decide) (by decide) (by omega) ?_; intro _ _ _ hk _ _; (try dsimp only at hk)))
local macro_rules | `(tactic| walk_at "call builtin:str.strip") => `(tactic| (k_here; (with_reducible show wpAny _ _ (call (Value.builtin "str.strip") [Value.str _ _]) _ _ _); (refine wpAny_with_toks (n := 1) (by first | assumption | omega | (dsimp only; omega)) ?_); (refine SCL.strip (hsz := ?hsz) ?_); (case hsz => (rw [PySem.sizeLine_eq]; omega)); intro _ _ _ htkS; (try dsimp only at htkS)))
local macro_rules | `(tactic| walk_at "eval GeneratorExp") => `(tactic| refine TEnd.out ?_)
local macro_rules | `(tactic| walk_at "call ref") => `(tactic| refine TEnd.out ?_)
local macro_rules | `(tactic| walk_at "getMethod ref") => `(tactic| ((with_reducible show wpAny _ _ (getMethod (Value.ref _) (Str.ofString "items") _) _ _ _); refine TEnd.out ?_))
local macro_rules | `(tactic| walk_at "call builtin:dict.items") => `(tactic| refine TEnd.out ?_)
local macro_rules | `(tactic| walk_at "call builtin:iter") => `(tactic| refine TEnd.out ?_)
local macro_rules | `(tactic| walk_at "compareOp Is") => `(tactic| (refine is_optv (by assumption) ?_))
local macro_rules | `(tactic| k_room) => `(tactic| ktr_room)
local macro_rules | `(tactic| k_units) => `(tactic| ktr_units)
local macro_rules | `(tactic| k_all) => `(tactic| assumption)
local macro_rules | `(tactic| walk_at "eval Name") => `(tactic| (k_here; k_dflt (first
  | (refine' ld ?k1 ?k2 ?_; (case k1 => k_asm); (case k2 => first | exact rfl | assumption); k_whole)
  | (refine' nameX_L ?F ?v ?_ ?a ?b; (case F => k_asm); (case a => rfl); (case b => rfl); (case v => first | exact rfl | assumption); k_whole))))
local macro_rules | `(tactic| walk_at "loadName") => `(tactic| (k_here; k_dflt (refine' ldn ?k1 ?k2 ?_; (case k1 => k_asm); (case k2 => first | exact rfl | assumption); k_whole)))
theorem code358 {P : Params} {h : Heap} (X : (K0 P).In h) {o : Obj} {ps : Array Value} (ho : h.get? 354 = some o) (hd : o.data = .fields ps) (ht : TriplesOk ps.toList) : h.IsCode 358 354 ps :=
  isCode_of (K := K0 P) rfl rfl rfl rfl rfl rfl (by decide) X ho hd ht
set_option pp.deepTerms false
set_option pp.maxSteps 3000
set_option maxHeartbeats 4000000 in
theorem raw_w {w : World} {mean : ExcName → Option Value} {mg mb : Str → Option Value}
    {dp un : Nat} {gd : Option (List Code)} {cn : Str} {nms : List (Str × NameKind)} {ig ic : Bool} {mo : List (Str × Const)} {a : Addr} {ccd : Value} {cl : List (Str × Addr)} {outer : List Env} {A₀ : Around} {base h₀ : Heap} {L : Addr} {m : Str → Option Value} {s : Shared}
    {Q E : Value → Shared → Prop} {news : List (Addr × Obj)} {y : Str} {t : Tok} {z : List Nat} {b : Bool} {oT oT3 : Obj} {x Dx : Addr}
    (B : Below A₀ base outer h₀) (F : Fr h₀ L s.heap m) (X : (K0 w.params).In h₀) (N : News h₀ L s.heap ((x, clob Dx y t #[some (.bool b)]) :: (Dx, dict0) :: (216, oT) :: (354, oT3) :: news)) (hn354 : ∀ p ∈ (x, clob Dx y t #[some (.bool b)]) :: (Dx, dict0) :: (216, oT) :: news, p.1 ≠ 354) (hn216 : ∀ p ∈ (x, clob Dx y t #[some (.bool b)]) :: (Dx, dict0) :: (354, oT3) :: news, p.1 ≠ 216) (T : Top hd.view_39 loos mean mg mb h₀) (XB : (K0 w.params).In base) (TB : Top hd.view_39 loos mean mg mb base) (D0 : KtsDicts (outer.filterMap (·.frame)) h₀) (G : AllBare s.gens)
    (hT : TabLike oT) (hT3 : TabLike oT3) (hy : y = S z)
    (hx : y.length ≤ 900) (hdp : dp ≤ 390) (hup : un ≤ 3000) {k v : Nat} {nb : Bool} (hk0 : 0 < k) (hkv : k ≤ v) (hvz : v < z.length) (hkv1 : k + 1 ≠ v) (hnm : NameOk (nameT b z k) nb) (hnml : (nameT b z k).length ≤ 900) (h92 : 92 ∉ (z.take v).drop (k + 1)) (hrl9 : (rawT b z k v).length ≤ 900) {px : List Nat} {kus : List (Str × UV)} (hpx : escT (rawT b z k v) = S px) (hpxl : px.length ≤ 900) (HN : kus.length ≤ (qs 59 (-1) px false [] [] 0).length) (HK : ∀ (i : Nat) (p : List Nat), i < kus.length → (qs 59 (-1) px false [] [] 0)[i]? = some p → ∃ ku, kus[i]? = some ku ∧ PTurn b p ku) (HBad : ∀ p, (qs 59 (-1) px false [] [] 0)[kus.length]? = some p → PBad p) (hnd : (kus.map fun p => Txt.upper p.1).Nodup) (hul : ∀ p ∈ kus, (Txt.upper p.1).length ≤ 1000 ∧ UVlen p.2) (hnd2 : (kus.map fun p => Txt.upper (unT (Txt.upper p.1))).Nodup) (hkl2 : ∀ p ∈ kus, (unT (Txt.upper p.1)).length ≤ 1000) (hxl2 : kus.length ≤ 1000) (hns : (spF z 0 ⟨none, none, false, false⟩).ns = some k) (hvs0 : (spF z 0 ⟨none, none, false, false⟩).vs = some v)
    (hErr : (nb = false ∨ kus.length < (qs 59 (-1) px false [] [] 0).length) → ∀ g' e t cx vs h' tk' gs' oT8 oT9, TabLike oT8 → TabLike oT9 → Fr h₀ L g' m → RaisedX base g' (envX cn { kind := .function, names := nms, isGenerator := ig, isCoroutine := ic, more := mo } L a ccd cl :: outer) e t cx vs [(216, oT8), (354, oT9)] h' → g'.UpToSlots h' → AllBare gs' → E (.ref e) { s with heap := h', toks := tk', gens := gs' })
    (hret : nb = true → kus.length = (qs 59 (-1) px false [] [] 0).length → ∀ T3 D Dd h' tk gs es ep ls kvs oT' oT3' tn tv, AllBare gs → TabLike oT' → TabLike oT3' → Fr h₀ L h' m → News h₀ L h' ((T3, { cls := .type "tuple", data := .seq #[.str (nameT b z k) tn, .ref D, .str (S (z.drop (v + 1))) tv] }) :: (D, DS.pob 282 Dd es ep) :: (Dd, dict0) :: (ls ++ (354, oT3') :: (216, oT') :: (x, clob Dx y t #[some (.bool b)]) :: (Dx, dict0) :: news)) → (∀ p ∈ (Dd, dict0) :: (354, oT3') :: (216, oT') :: (x, clob Dx y t #[some (.bool b)]) :: (Dx, dict0) :: news, p.1 ≠ D) → Ents es.toList kvs → UVals ls (kus.map fun p => (Txt.upper (unT (Txt.upper p.1)), unUV p.2)) kvs → Q (.ref T3) { s with heap := h', toks := tk, gens := gs }) :
    wpAny (model PySem.Challenge.rw_bl0007_01.row.prog w) (cal dp un gd cn nms ig ic mo L a ccd cl outer) (call (.ref 359) [.ref x]) Q E s := by
  have hrl : recursionLimit = 1000 := rfl
  have hcl : cLine = 9900 := rfl
  have hd1 : dp + 20 < recursionLimit := by have : recursionLimit = 1000 := rfl; omega
  have hu1 : un + 400 < cLine := by have : cLine = 9900 := rfl; omega
  revert X; k_fill; intro X
  refine wpAny_call ?_
  k_dflt (refine' code_def (binds := [(Str.ofString "self", .ref x)]) ?k1 ?k2 ?k3 ?k4 ?k5 ?kA ?kF ?kK ?k6 ?k7 ?k8 ?k9 ?kB ?_ ?c2 ?c3 ?c4 ?c5; (case kA => exact rfl); (case kF => exact rfl); (case kK => exact rfl); (case k1 => k_asm); (case k2 => k_asm); (case k3 => k_asm); (case k4 => k_asm); (case k5 => k_asm); (case k6 => k_is); (case k7 => k_is); (case k8 => k_room); (case k9 => exact BindsTo.of_eq rfl); (case c5 => decide); (case kB => exact locs rfl); (case c2 => exact rfl); (case c3 => exact rfl); (case c4 => exact rfl); k_whole; intro g' L' h' FG' F' N' B' X' T'; (try dsimp only); (try k_lift B'); (try k_fold))
  k_steps
  refine TEnd.mk ?_
  refine wpAny_For ?_ (fun _ => rfl)
  k_steps
  refine TEnd.mk ?_
  rename_i h1 F1 N1
  refine up9 rfl (by show dp + 1 ≤ 900; omega) (by show un + 3 ≤ 9000; omega) (wpAny_mono (x_enum (X'.keeps F1.keep) (N1 _ (.head _)).1) (fun v s' hv => ?_) fun _ _ z => z)
  obtain ⟨e, it, h2, tk2, rfl, rfl, k2, he0, hi0, hei, hE, hI⟩ := hv
  dsimp only
  have F2 := F1.keeps k2
  have N2 := N1.grown k2
  have hfre : ∀ a, h1.get? a = none → a ≠ L' ∧ g'.get? a = none ∧ ∀ p ∈ (x, clob Dx y t #[some (.bool b)]) :: (Dx, dict0) :: (216, oT) :: (354, oT3) :: news, p.1 ≠ a := fun a q => by
    refine ⟨?_, ?_, fun p hp z => ?_⟩
    · rintro rfl
      obtain ⟨ol, _, _, hol, _⟩ := F1.ns
      rw [q] at hol; cases hol
    · cases z : g'.get? a with
      | none => rfl
      | some o => have := F1.keep a o z; rw [q] at this; cases this
    · have := (N1 p hp).1
      rw [z, q] at this; cases this
  refine wpAny_pyIter_enum hE ?_
  refine for_enum (x := x) (ox := clob Dx y t #[some (.bool b)]) (y := y) (t := t) rfl hei rfl rfl rfl rfl rfl hE hI (hfre e he0).2.1 (hfre it hi0).2.1 (hfre e he0).1 (hfre it hi0).1
    (fun i m' nw => ∃ σ, SPM m' x σ ∧ nw = (x, clob Dx y t #[some (.bool b)]) :: (Dx, dict0) :: (216, oT) :: (354, oT3) :: news ∧ spF (z.drop i) i σ = spF z 0 ⟨none, none, false, false⟩)
    ?hJx F2 N2 (fun p hp => ⟨(hfre e he0).2.2 p hp, (hfre it hi0).2.2 p hp⟩) ⟨⟨none, none, false, false⟩, ⟨rfl, rfl, rfl, rfl, rfl, fun _ => rfl⟩, rfl, rfl⟩ ?turn ?done
  case hJx =>
    rintro i m' nw ⟨σ, _, rfl, _⟩
    exact .head _
  case done =>
    rintro h tk m' nw htk ⟨σ, hm, rfl, hσ⟩ F3 N3
    have hzl : y.cps.size = z.length := by rw [hy]; simp [S]
    rw [hzl, List.drop_length] at hσ
    have hσ' : σ = spF z 0 ⟨none, none, false, false⟩ := hσ
    obtain ⟨hs1, hs2, hs3, hs4, hs5, hs6⟩ := hm
    rw [hσ', hns] at hs2
    rw [hσ', hvs0] at hs3
    obtain ⟨tk1, hs2⟩ := hs2
    obtain ⟨tk2, hs3⟩ := hs3
    clear hs4 hs5 hs6
    have hyl : y.length = z.length := by rw [hy, S_len]
    have hkl : (S (z.take k)).length ≤ 900 := by rw [S_len, List.length_take]; omega
    dsimp only
    refine execs_cut (h₀ := g') (L := L') (fun m2 nw => m2 = m' ∧ nw = (x, clob Dx y t #[some (.bool b)]) :: (Dx, dict0) :: (216, oT) :: (354, oT3) :: news) ?_ ?_
    · k_steps
      · exact mid_intro (by assumption) (by assumption) ⟨rfl, rfl⟩
      · exact absurd (show (v : Int) = 0 by assumption) (by omega)
    clear F3 N3
    rintro h3 tk3 m3 nw3 F3 N3 ⟨e3, rfl⟩
    subst e3
    refine execs_cut (h₀ := g') (L := L') (fun m2 nw => (∃ t4, m2 = fun y => if y = Str.ofString "name" then some (.str (S (z.take k)) t4) else m3 y) ∧ nw = (x, clob Dx y t #[some (.bool b)]) :: (Dx, dict0) :: (216, oT) :: (354, oT3) :: news) ?_ ?_
    · k_steps
      · refine TEnd.mk ?_
        have hsl1 : Txt.slice y none (some (k : Int)) = S (z.take k) := by rw [hy]; exact S_slice_to (by omega)
        have F4 := F3.push { cls := .type "slice", data := .fields #[.none, .int k tk1, .none] }
        have N4 := N3.pushKeep { cls := .type "slice", data := .fields #[.none, .int k tk1, .none] }
        refine slice_sub (C := 395) (ox := clob Dx y t #[some (.bool b)]) (od := some dict0) (l := none) (u := some ((k : Int), tk1)) (X'.keeps F4.keep) ⟨(N4 _ (.head _)).1, rfl, rfl, (N4 _ (.tail _ (.head _))).1⟩ rfl (by k_is) (by k_is) (by k_is) ⟨_, Heap.get?_push_size _ rfl, rfl, rfl⟩ (proper_of (by
          show Txt.slice y none (some (k : Int)) ≠ y
          rw [hsl1, hy]
          intro e
          have := congrArg List.length (S_inj e)
          simp at this; omega)) (by omega) ?_ (fun _ => rfl)
        intro t4
        rw [show Txt.slice y (Option.map (fun x => x.fst) (none : Option (Int × Tok))) (Option.map (fun x => x.fst) (some ((k : Int), tk1))) = S (z.take k) from hsl1]
        clear F3 N3
        dsimp only
        k_steps
        exact mid_intro (by assumption) (by assumption) ⟨⟨_, rfl⟩, rfl⟩
      · exact absurd (show (k : Int) = 0 by assumption) (by omega)
    clear F3 N3
    rintro h5 tk5 m5 nw5 F5 N5 ⟨⟨t4, e5⟩, rfl⟩
    subst e5
    refine execs_cut (h₀ := g') (L := L') (fun m2 nw => (∃ t4 t5, m2 = (fun y => if y = Str.ofString "name" then some (.str (nameT b z k) t5) else if y = Str.ofString "name" then some (.str (S (z.take k)) t4) else m3 y) ∨ (m2 = (fun y => if y = Str.ofString "name" then some (.str (nameT b z k) t5) else m3 y))) ∧ nw = (x, clob Dx y t #[some (.bool b)]) :: (Dx, dict0) :: (216, oT) :: (354, oT3) :: news) ?_ ?_
    · k_steps
      refine hook_passes (b := b) (C := 395) (ox := clob Dx y t #[some (.bool b)]) (od := some dict0) (X'.keeps F5.keep) ⟨(N5 _ (.head _)).1, rfl, rfl, (N5 _ (.tail _ (.head _))).1⟩ (by k_is) ?_
      refine wpAny_with_toks (n := 1) (by show 1 ≤ _ + 1; omega) ?_
      refine up9 rfl (by show dp + 1 ≤ 900; omega) (by show un + 3 ≤ 9000; omega) (wpAny_mono (x_hooked (X'.keeps F5.keep) (N5 _ (.head _)).1) (fun v s' hv => ?_) fun _ _ z => z)
      obtain ⟨h6, tk6, rfl, rfl, k6⟩ := hv
      intro htk6
      refine ⟨rfl, ?_⟩
      have F6 := F5.keeps k6
      have N6 := N5.grown k6
      clear F5 N5
      replace htk6 : 1 ≤ tk6 := htk6
      dsimp only
      k_steps
      · have hb' : b = true := by assumption
        subst hb'
        exact mid_intro F6 N6 ⟨⟨t4, t4, .inr rfl⟩, rfl⟩
      · have hb' : b = false := by assumption
        subst hb'
        subst_vars
        exact mid_intro (by assumption) (by assumption) ⟨⟨t4, _, .inl rfl⟩, rfl⟩
    rintro h6 tk6 m6 nw6 F6 N6 ⟨hm6, rfl⟩
    have hm6n : ∃ t5, m6 (Str.ofString "name") = some (.str (nameT b z k) t5) := by
      obtain ⟨t4, t5, e | e⟩ := hm6 <;> exact ⟨t5, by rw [e]; rfl⟩
    obtain ⟨t5, hm6n⟩ := hm6n
    have hm6s : ∀ v : Str, v ≠ Str.ofString "name" → m6 v = m3 v := fun v hv => by
      obtain ⟨t4, t5, e | e⟩ := hm6
      · rw [e]; simp [hv]
      · rw [e]; simp [hv]
    have hm61 := (hm6s (Str.ofString "self") (by decide)).trans hs1
    have hm62 := (hm6s (Str.ofString "name_split") (by decide)).trans hs2
    have hm63 := (hm6s (Str.ofString "value_split") (by decide)).trans hs3
    clear hm6 hm6s F5 N5
    k_steps
    refine TEnd.mk ?_
    rcases nb with _ | _
    · refine vtok_bad (by assumption) F6 X' N6 T' (Nat.le_trans hnml (by decide)) hnm (by show dp + 1 + 20 < _; omega) (by show un + 3 + 400 < _; omega) ?_
      intro g9 e9 t9 h9 tk9 F9 R9 U9
      refine caught_asX R9 F9 B' U9 XB TB (ktsD rfl FG' D0) rfl rfl rfl rfl rfl rfl rfl (by k_is) ?_
      intro h10 g10 oe ot tk10 T10 F10 N10 C10 B10 X10 P10 D10
      refine wpAny_execs_cons ?_
      refine raise_from (e1 := e9) rfl rfl rfl (by decide) ?_
      k_steps
      refine fmt_self (x := x) (Dx := Dx) (e := e9) (y := y) (t' := t) (b := b) rfl (by show dp + 1 ≤ 900; omega) (by show un + 3 ≤ 9000; omega) (X10.keeps F10.keep) (by omega) ⟨(N10 (x, clob Dx y t #[some (.bool b)]) (by simp)).1, rfl, rfl, (N10 (Dx, dict0) (by simp)).1⟩ (by k_is) ?_
      intro t11 h11 tk11 k11
      have F11 := F10.keeps k11
      have N11 := N10.grown k11
      clear F10 N10
      have hlen1 : (Str.empty ++ Str.ofString "Content line could not be parsed into parts: '" ++ y).length ≤ 10000 := by
        have h1 : (Str.ofString "Content line could not be parsed into parts: '").length = 46 := by decide +kernel
        have h2 : Str.empty.length = 0 := rfl
        rw [Str.length_append, Str.length_append, h1, h2]; omega
      dsimp only
      refine ⟨by rw [PySem.sizeLine_eq]; omega, ?_⟩
      generalize Str.empty ++ Str.ofString "Content line could not be parsed into parts: '" ++ y = tx1 at hlen1 ⊢
      k_steps
      refine format_exc (N11 _ (.head _)).1 (N11 _ (.tail _ (.head _))).1 C10 (by show un + 3 + 5 < cLine; omega) ?_
      have hlen : (tx1 ++ Str.ofString "': " ++ nameT b z k).length ≤ 30000 := by
        have h3 : (Str.ofString "': ").length = 3 := by decide +kernel
        rw [Str.length_append, Str.length_append, h3]; omega
      dsimp only
      refine ⟨by rw [PySem.sizeLine_eq]; omega, ?_⟩
      generalize tx1 ++ Str.ofString "': " ++ nameT b z k = txt at hlen ⊢
      k_steps
      refine TEnd.mk ?_
      refine wpAny_call_exc PySem.F.excCall_ValueError (fun h12 e12 M12 => ?_) (by rw [PySem.sizeLine_eq]; exact Nat.le_of_ble_eq_true rfl)
      dsimp only
      obtain ⟨⟨ws, c1, c2, c3, c4⟩, n10, c5, c6⟩ := C10
      obtain ⟨t12, q1, q2, q3⟩ := M12.there
      have x9 : ExO h11 e9 t9 .none (ws.getD 1 .none) := ⟨oe, ws, (N11 _ (.head _)).1, c1, c2, c3, c4, by
        have : 2 < ws.size := (Array.getElem?_eq_some_iff.mp c4).1
        simp [Array.getD, show 1 < ws.size by omega]⟩
      refine ⟨e12, t12, h11, .none, _, _, _, t9, rfl, M12, F11.ns, rfl, x9, .none, q1, fun h13 x13 k13 => ?_⟩
      refine suite_out (hd := some (.ref e9)) (EE := E) (vs := [.str txt _]) B10 F11 N11 M12.new q2 (fun b o q => k13 b o (fun z => by rw [z, M12.new] at q; cases q) (M12.keeps b o q)) ⟨_, _, k13 _ _ (fun z => by rw [z, q1] at q3; exact absurd (congrArg Obj.cls (Option.some.inj q3)) (by simp)) q3, rfl, rfl⟩ x13 rfl rfl rfl rfl ?_ ?_
      · intro B9 s9 o9
        exact o9.leave rfl
      · intro h14 tk14 R14 U14
        exact hErr (.inl rfl) g' e12 t12 _ _ h14 tk14 _ oT oT3 hT hT3 FG' ((R14.back T10).sub (by
          intro q hq
          simp only [List.mem_cons, List.not_mem_nil, or_false] at hq
          rcases hq with h | h
          · simp [h]
          · simp [h])) ((slots_turn T10).trans U14) G
    refine vtok_ok (X'.keeps F6.keep) (T'.keeps F6.keep) (by show dp + 1 + 20 < _; omega) (Nat.le_trans hnml (by decide)) hnm ?_
    intro h8 tk8 hk8
    have F8 := F6.keeps hk8
    have N8 := N6.grown hk8
    clear F6 N6
    dsimp only
    refine execs_cut (h₀ := g') (L := L') (fun m2 nw => m2 = m6 ∧ nw = (x, clob Dx y t #[some (.bool b)]) :: (Dx, dict0) :: (216, oT) :: (354, oT3) :: news) ?_ ?_
    · k_steps
      · exact absurd (show (k : Int) + 1 = v by assumption) (by omega)
      · exact mid_intro (by assumption) (by assumption) ⟨rfl, rfl⟩
      · exact absurd (show (k : Int) = 0 by assumption) (by omega)
    clear F8 N8
    rintro h9 tk9 m9 nw9 F9 N9 ⟨e9, rfl⟩
    subst e9
    refine execs_cut (h₀ := g') (L := L') (fun m2 nw => (∃ t10, m2 = fun y => if y = Str.ofString "raw_param_str" then some (.str (S ((z.take v).drop (k + 1))) t10) else m9 y) ∧ nw = (x, clob Dx y t #[some (.bool b)]) :: (Dx, dict0) :: (216, oT) :: (354, oT3) :: news) ?_ ?_
    · k_steps
      refine TEnd.mk ?_
      refine slice_K (l := some ((k : Int) + 1, _)) (u := some ((v : Int), _)) (r := S ((z.take v).drop (k + 1))) F9 N9 X' (.head _) (.tail _ (.head _)) rfl (by k_is) (by k_is) (by k_is) (by rw [hy]; exact S_slice_any (a := k + 1) (by omega) (by omega)) (by
        rw [hy]
        intro e
        have := congrArg List.length (S_inj e)
        simp at this; omega) (by omega) (fun _ => rfl) ?_
      intro t10 h10 F10 N10
      clear F9 N9
      dsimp only
      k_steps
      exact mid_intro (by assumption) (by assumption) ⟨⟨_, rfl⟩, rfl⟩
    clear F9 N9
    rintro h11 tk11 m11 nw11 F11 N11 ⟨⟨t10, e11⟩, rfl⟩
    have hraw : m11 (Str.ofString "raw_param_str") = some (.str (S ((z.take v).drop (k + 1))) t10) := by rw [e11]; rfl
    have hoth : ∀ u : Str, u ≠ Str.ofString "raw_param_str" → m11 u = m9 u := fun u hu => by rw [e11]; simp [hu]
    have hn11 := (hoth (Str.ofString "name") (by decide)).trans hm6n
    have hs11 := (hoth (Str.ofString "self") (by decide)).trans hm61
    have hv11 := (hoth (Str.ofString "value_split") (by decide)).trans hm63
    clear hm6n hm61 hm62 hm63 e11 hoth
    have hrwl : (S ((z.take v).drop (k + 1))).length ≤ 900 := by rw [S_len, List.length_drop, List.length_take]; omega
    refine execs_cut (h₀ := g') (L := L') (fun m2 nw => (∃ t12, m2 (Str.ofString "raw_param_str") = some (.str (rawT b z k v) t12)) ∧ m2 (Str.ofString "name") = some (.str (nameT b z k) t5) ∧ m2 (Str.ofString "self") = some (.ref x) ∧ m2 (Str.ofString "value_split") = some (.int v tk2) ∧ nw = (x, clob Dx y t #[some (.bool b)]) :: (Dx, dict0) :: (216, oT) :: (354, oT3) :: news) ?_ ?_
    · k_steps
      refine strict_K (by k_is) F11 N11 X' (.head _) (.tail _ (.head _)) rfl rfl (by show dp + 1 ≤ 900; omega) (by show un + 3 ≤ 9000; omega) ?_
      intro h12 tk12 htk12 F12 N12
      clear F11 N11
      dsimp only
      k_steps
      · have hb' : b = true := by assumption
        subst hb'
        exact mid_intro F12 N12 ⟨⟨_, hraw⟩, hn11, hs11, hv11, rfl⟩
      · have hb' : b = false := by assumption
        subst hb'
        refine TEnd.mk ?_
        refine strip_w (x := (z.take v).drop (k + 1)) (X'.keeps F12.keep) (T'.keeps F12.keep) (by show dp + 1 + 20 < _; omega) rfl rfl (Nat.le_trans hrwl (by decide)) h92 ?_
        intro t13 z13 h13 tk13 hz13 hk13
        subst hz13
        have F13 := F12.keeps hk13
        have N13 := N12.grown hk13
        clear F12 N12
        dsimp only
        k_steps
        rename_i h9 F9 N9
        exact mid_intro F9 N9 ⟨⟨_, rfl⟩, hn11, hs11, hv11, rfl⟩
    clear F11 N11 hraw hn11 hs11 hv11
    rintro h14 tk14 m14 nw14 F14 N14 ⟨⟨t12, hraw⟩, hn14, hs14, hv14, rfl⟩
    k_steps
    refine TEnd.mk ?_
    refine esc_w (X'.keeps F14.keep) (T'.keeps F14.keep) (by show dp + 1 < _; omega) (Nat.le_trans hrl9 (by decide)) ?_
    intro t15 h15 tk15 hk15
    have F15 := F14.keeps hk15
    have N15 := N14.grown hk15
    clear F14 N14
    dsimp only
    k_steps
    rename_i q16 h16 F16 N16 l16
    refine callWith_MKW (K := K0 w.params) (q := q16) (g := 268) (self := .ref 282) (by k_is) (by rfl) ?_
    k_steps
    refine strict_K (by k_is) F16 N16 X' (.tail _ (.head _)) (.tail _ (.tail _ (.head _))) rfl rfl (by show dp + 1 ≤ 900; omega) (by show un + 3 ≤ 9000; omega) ?_
    intro h17 tk17 htk17 F17 N17
    clear F16 N16
    dsimp only
    k_steps
    refine TEnd.mk ?_
    refine call_meth N17 (.head _) ?_
    refine fical_w (x := px) (t := t15) (y := escT (rawT b z k v)) (oT := oT) (b := b) (kus := kus) (news := (x, clob Dx y t #[some (.bool b)]) :: (Dx, dict0) :: (354, oT3) :: news) (by assumption) F17 X' (fun p hp => N17 p (by
      simp only [List.mem_cons] at hp ⊢
      rcases hp with h | h | h | h | h <;> simp [h])) T' XB TB (ktsD rfl FG' D0) G ?hbF hn216 hT hpx (by rw [hpx, S_len]; exact hpxl) (by show dp + 1 ≤ 400; omega) (by show un + 3 ≤ 4000; omega) HN HK HBad hnd ?hErrF ?_
    case hbF =>
      refine hb_of (X'.keeps F17.keep) (by k_is) rfl ?_
      first | exact BindsTo.of_eq rfl | exact binds_K (X'.keeps F17.keep) rfl (by k_is) rfl rfl rfl
    case hErrF =>
      intro hlt g9 e9 t9 e0 o0 t0 txt9 tok9 h9 tk9 gs9 oT9 hT9 F9 R9 B0 l9 U9 G9
      refine caught_asX R9 F9 B' U9 XB TB (ktsD rfl FG' D0) rfl rfl rfl rfl rfl rfl rfl (by k_is) ?_
      intro h10 g10 oe ot tk10 T10 F10 N10 C10 B10 X10 P10 D10
      refine wpAny_execs_cons ?_
      refine raise_from (e1 := e9) rfl rfl rfl (by decide) ?_
      k_steps
      refine fmt_self (x := x) (Dx := Dx) (e := e9) (y := y) (t' := t) (b := b) rfl (by show dp + 1 ≤ 900; omega) (by show un + 3 ≤ 9000; omega) (X10.keeps F10.keep) (by omega) ⟨(N10 (x, clob Dx y t #[some (.bool b)]) (by simp)).1, rfl, rfl, (N10 (Dx, dict0) (by simp)).1⟩ (by k_is) ?_
      intro t11 h11 tk11 k11
      have F11 := F10.keeps k11
      have N11 := N10.grown k11
      clear F10 N10
      have hlen1 : (Str.empty ++ Str.ofString "Content line could not be parsed into parts: '" ++ y).length ≤ 10000 := by
        have h1 : (Str.ofString "Content line could not be parsed into parts: '").length = 46 := by decide +kernel
        have h2 : Str.empty.length = 0 := rfl
        rw [Str.length_append, Str.length_append, h1, h2]; omega
      dsimp only
      refine ⟨by rw [PySem.sizeLine_eq]; omega, ?_⟩
      generalize Str.empty ++ Str.ofString "Content line could not be parsed into parts: '" ++ y = tx1 at hlen1 ⊢
      k_steps
      refine format_exc (N11 _ (.head _)).1 (N11 _ (.tail _ (.head _))).1 C10 (by show un + 3 + 5 < cLine; omega) ?_
      have hlen : (tx1 ++ Str.ofString "': " ++ txt9).length ≤ 30000 := by
        have h3 : (Str.ofString "': ").length = 3 := by decide +kernel
        rw [Str.length_append, Str.length_append, h3]; omega
      dsimp only
      refine ⟨by rw [PySem.sizeLine_eq]; omega, ?_⟩
      generalize tx1 ++ Str.ofString "': " ++ txt9 = txt at hlen ⊢
      k_steps
      refine TEnd.mk ?_
      refine wpAny_call_exc PySem.F.excCall_ValueError (fun h12 e12 M12 => ?_) (by rw [PySem.sizeLine_eq]; exact Nat.le_of_ble_eq_true rfl)
      dsimp only
      obtain ⟨⟨ws, c1, c2, c3, c4⟩, n10, c5, c6⟩ := C10
      obtain ⟨t12, q1, q2, q3⟩ := M12.there
      have x9 : ExO h11 e9 t9 (.ref e0) (ws.getD 1 .none) := ⟨oe, ws, (N11 _ (.head _)).1, c1, c2, c3, c4, by
        have : 2 < ws.size := (Array.getElem?_eq_some_iff.mp c4).1
        simp [Array.getD, show 1 < ws.size by omega]⟩
      obtain ⟨ws0, d1, d2, d3, d4⟩ := B0
      have beh : Behind h11 e9 (.ref e0) := .one e0 t0 (ws0.getD 1 .none) (fun z => by
        have a1 := (N11 (e9, oe) (by simp)).1
        have a2 := (N11 (e0, o0) (by simp)).1
        dsimp only at a1 a2
        rw [z, a1] at a2
        have a3 := congrArg Obj.data (Option.some.inj a2)
        rw [c2, d2] at a3
        have a4 : ws = ws0 := by injection a3
        rw [a4, d4] at c4
        cases c4) ⟨o0, ws0, (N11 (e0, o0) (by simp)).1, d1, d2, d3, d4, by
        have : 2 < ws0.size := (Array.getElem?_eq_some_iff.mp d4).1
        simp [Array.getD, show 1 < ws0.size by omega]⟩
      refine ⟨e12, t12, h11, (.ref e0), _, _, _, t9, rfl, M12, F11.ns, rfl, x9, beh, q1, fun h13 x13 k13 => ?_⟩
      refine suite_out (hd := some (.ref e9)) (EE := E) (vs := [.str txt _]) B10 F11 N11 M12.new q2 (fun b o q => k13 b o (fun z => by rw [z, M12.new] at q; cases q) (M12.keeps b o q)) ⟨_, _, k13 _ _ (fun z => by rw [z, q1] at q3; exact absurd (congrArg Obj.cls (Option.some.inj q3)) (by simp)) q3, rfl, rfl⟩ x13 rfl rfl rfl rfl ?_ ?_
      · intro B9 s9 o9
        exact o9.leave rfl
      · intro h14 tk14 R14 U14
        exact hErr (.inr hlt) g' e12 t12 _ _ h14 tk14 _ oT9 oT3 hT9 hT3 FG' ((R14.back T10).sub (by
          intro q hq
          simp only [List.mem_cons, List.not_mem_nil, or_false] at hq
          rcases hq with h | h
          · simp [h]
          · simp [h])) ((slots_turn T10).trans U14) G9
    intro hkeq D Dd h18 tk18 gs18 es ep ls kvs oT18 G18 hT18 F18 N18 hD18 hls18 he18 hv18
    clear F17 N17
    dsimp only
    k_steps
    refine TEnd.mk ?_
    rename_i h19 F19 N19
    obtain ⟨bm, ob, M⟩ := bmod_of_top T'
    have hDd354 : Dd ≠ 354 := news_ne N19 (oa := dict0) (ob := oT3) (by simp) (by simp) (fun e => by
      obtain ⟨ps, hd, _⟩ := hT3
      rw [← e] at hd; cases hd)
    have N20 : News g' L' h19 ((354, oT3) :: ((D, DS.pob 282 Dd es ep) :: (ls ++ ((Dd, dict0) :: (216, oT18) :: (x, clob Dx y t #[some (.bool b)]) :: (Dx, dict0) :: news)))) := fun p hp => N19 p (by
      simp only [List.mem_cons, List.mem_append] at hp ⊢
      rcases hp with h | h | h | h | h | h | h | h <;> simp [h])
    clear N19
    refine gen_pairs (G := g') (L := L') (c := 358) (P := 354) (D := D) (Dd := Dd) (oT := oT3) (ls := ls) F19 N20 ?hneP ?hneD ?hlsG X' T' M rfl he18 hv18 ?hulG (fun h o ps k e1 e2 e3 => code358 (X'.keeps k) e1 e2 e3) hT3 rfl rfl rfl rfl (by decide) rfl rfl rfl rfl rfl rfl (by k_room) ?hread ?hQ (fun _ => rfl)
    case hneP =>
      intro p hp
      simp only [List.mem_cons, List.mem_append] at hp
      rcases hp with h | h | h | h | h | h | h
      · rw [h]; exact fun e => hD18 (354, oT3) (by simp) e.symm
      · exact fun e => (hls18 p h).2.2.1 (354, oT3) (by simp) e.symm
      · rw [h]; exact hDd354
      · rw [h]; exact (by decide : (216 : Addr) ≠ 354)
      · rw [h]; exact hn354 (x, clob Dx y t #[some (.bool b)]) (by simp)
      · rw [h]; exact hn354 (Dx, dict0) (by simp)
      · exact hn354 p (by simp [h])
    case hneD =>
      intro p hp
      refine hD18 p ?_
      simp only [List.mem_cons, List.mem_append] at hp ⊢
      rcases hp with h | h | h | h | h <;> simp [h]
    case hlsG =>
      intro p hp
      obtain ⟨a1, a2, a3, a4⟩ := hls18 p hp
      refine ⟨fun q hq => ?_, a4⟩
      simp only [List.mem_cons] at hq
      rcases hq with h | h | h | h | h
      · exact a3 q (by simp [h])
      · rw [h]; exact fun e => a2 e.symm
      · exact a3 q (by simp [h])
      · exact a3 q (by simp [h])
      · exact a3 q (by simp [h])
    case hulG =>
      intro p hp
      obtain ⟨q, hq, rfl⟩ := List.mem_map.mp hp
      exact hul q hq
    case hread =>
      k_steps
      refine TEnd.mk ?_
      refine pob_getm (X'.keeps F19.keep) ⟨(N20 _ (.tail _ (.head _))).1, rfl, rfl, (N20 (Dd, dict0) (by simp)).1⟩ rfl (N20 (Dd, dict0) (by simp)).1 (by k_is) (by k_is) (by k_is) ty_items ?_
      k_steps
      refine TEnd.mk ?_
      refine up9 rfl (by show dp + 1 ≤ 900; omega) (by show un + 3 ≤ 9000; omega) (wpAny_mono (x_pitems (X'.keeps F19.keep) (N20 _ (.tail _ (.head _))).1) (fun v s' hv => ?_) fun _ _ z => z)
      obtain ⟨q1, o21, h21, tk21, rfl, rfl, k21, hq20, hq21, rfl⟩ := hv
      dsimp only
      k_steps
      refine TEnd.mk ?_
      refine up9 rfl (by show dp + 1 ≤ 900; omega) (by show un + 3 ≤ 9000; omega) (wpAny_mono (x_piter (X'.keeps fun b o e => k21 _ _ (F19.keep b o e)) hq21 (k21 _ _ (N20 _ (.tail _ (.head _))).1)) (fun v s' hv => ?_) fun _ _ z => z)
      obtain ⟨I, oI, h23, tk23, rfl, rfl, k23, hI0, hI1, rfl⟩ := hv
      exact ⟨I, h23, tk23, rfl, rfl, fun b o e => k23 _ _ (k21 _ _ e), (by
        cases z : h19.get? I with
        | none => rfl
        | some o => have := k21 _ _ z; dsimp only at hI0; rw [hI0] at this; cases this), hI1⟩
    case hQ =>
      intro gn gl h22 tk22 gs22 oT22 hT22 hgb22 F22 N22 hng22 hnP22 hgd22 GI
      clear F19 N20
      dsimp only
      k_steps
      refine TEnd.mk ?_
      have N22g : News g' L' h22 (gl ++ ((354, oT22) :: (Dd, dict0) :: (216, oT18) :: (x, clob Dx y t #[some (.bool b)]) :: (Dx, dict0) :: news)) := fun p hp => N22 p (by
        simp only [List.mem_cons, List.mem_append] at hp ⊢
        rcases hp with h | h | h | h | h | h | h <;> simp [h])
      refine pgen_w F22 X' N22g T' (by show dp + 1 ≤ 500; omega) (by show un + 3 ≤ 5000; omega) rfl ?hgn hgd22 (GI.move F22 (fun p hp => N22 p (by simp [hp])) (fun _ _ e => e) F22 (fun p hp => N22 p (by simp [hp]))) ?hndG ?hklG ?hxlG ?_
      case hgn =>
        intro p hp q hq
        rcases List.mem_cons.mp hp with h | h
        · rw [h]; exact fun e => hnP22 q (by simp [hq]) e.symm
        · exact hng22 p h q hq
      case hndG => exact (by rw [List.map_map, List.map_map]; exact hnd2)
      case hklG =>
        intro p hp
        simp only [List.map_map, List.mem_map, Function.comp] at hp
        obtain ⟨q, hq, rfl⟩ := hp
        exact hkl2 q hq
      case hxlG => simpa using hxl2
      intro D2 Dd2 h30 tk30 gs30 es2 ep2 ls2 kvs2 hb30 F30 N30 hD30 he30 hv30
      clear F22 N22 N22g GI
      dsimp only
      k_steps
      refine TEnd.mk ?_
      rename_i h31 F31 N31
      refine slice_K (x := x) (Dx := Dx) (y := y) (t := t) (sl := #[some (.bool b)]) (l := some ((v : Int) + 1, _)) (u := none) (r := S (z.drop (v + 1))) F31 N31 X' (by simp) (by simp) rfl (by k_is) (by k_is) (by k_is) (by rw [hy]; exact S_slice_from (l := z) (a := v + 1) (by omega)) (by
        rw [hy]
        intro e
        have := congrArg List.length (S_inj e)
        simp at this; omega) (by omega) (fun _ => rfl) ?_
      intro t32 h32 F32 N32
      clear F31 N31
      dsimp only
      k_steps
      have hUU := hv30
      rw [List.map_map, List.map_map] at hUU
      refine hret rfl hkeq _ D2 Dd2 _ _ _ es2 ep2 ls2 kvs2 oT18 oT22 t5 t32 (hb30 (G18.push hgb22)) hT18 hT22 (by assumption) (fun p hp => (by assumption : News h₀ L _ _) p ?_) (fun p hp => hD30 p ?_) he30 hUU
      · simp only [List.mem_cons, List.mem_append] at hp ⊢
        rcases hp with h | h | h | h | h | h | h | h | h <;> simp [h]
      · simp only [List.mem_cons] at hp ⊢
        rcases hp with h | h | h | h | h | h <;> simp [h]
  case turn =>
    rintro i c tok ti h tk m' nw oe oit htk hc ⟨⟨ns, vs, qq, ee⟩, ⟨hs1, hs2, hs3, hs4, hs5, hs6⟩, rfl, hσ⟩ F3 N3 hn3
    dsimp only at hs2 hs3 hs4 hs5 hs6
    have hnx : spF (z.drop (i + 1)) (i + 1) (spT i c ⟨ns, vs, qq, ee⟩) = spF z 0 ⟨none, none, false, false⟩ := by
      have hz : z[i]? = some c := by rw [hy] at hc; simpa [S] using hc
      rw [drop_cons hz] at hσ
      exact hσ
    have hcolon : (S [c] == Str.ofString ":") = true → (Builtin.Str.occurrences (Str.ofString ":;") (S [c]) 0 (Str.ofString ":;").length 1).isEmpty = false := fun h => by
      have h58 : c = 58 := by
        have := eq_of_beq h
        rw [show Str.ofString ":" = S [58] by decide +kernel] at this
        simpa using S_inj this
      subst h58
      decide +kernel
    obtain ⟨vn, hs2, hvn⟩ := OptAt.val hs2
    obtain ⟨vv, hs3, hvv⟩ := OptAt.val hs3
    k_steps
    all_goals
      (try dsimp only)
      refine ⟨⟨_, _, _, _, rfl, by assumption, by assumption, hn3, spT i c ⟨_, _, qq, ee⟩, ?_, rfl, hnx⟩⟩
      unfold spT spB
      try rw [show (S [c] == Str.ofString "\"") = true by assumption]
      try rw [show (S [c] == Str.ofString "\"") = false by assumption]
      try rw [show (S [c] == Str.ofString "\\") = true by assumption]
      try rw [show (S [c] == Str.ofString "\\") = false by assumption]
      try rw [show (Builtin.Str.occurrences (Str.ofString ":;") (S [c]) 0 (Str.ofString ":;").length 1).isEmpty = true by assumption]
      try rw [show (Builtin.Str.occurrences (Str.ofString ":;") (S [c]) 0 (Str.ofString ":;").length 1).isEmpty = false by assumption]
      try rw [show (S [c] == Str.ofString ":") = true by assumption]
      try rw [show (S [c] == Str.ofString ":") = false by assumption]
      try (have hq : qq = true := by assumption
           subst hq)
      try (have hq : qq = false := by assumption
           subst hq)
      try (have hq : ee = true := by assumption
           subst hq)
      try (have hq : ee = false := by assumption
           subst hq)
      try dsimp only
      try rw [show ns.isNone = true by assumption]
      try rw [show ns.isNone = false by assumption]
      try rw [show vs.isNone = true by assumption]
      try rw [show vs.isNone = false by assumption]
      try dsimp only [Bool.not_true, Bool.not_false, Bool.and_true, Bool.and_false, Bool.true_and, Bool.false_and, if_true, if_false, Bool.false_eq_true, ite_true, ite_false]
      first
        | exact ⟨hs1, .back hs2 hvn, .back hs3 hvv, hs4, rfl, hs6⟩
        | exact ⟨hs1, .back hs2 hvn, .back hs3 hvv, rfl, rfl, hs6⟩
        | exact ⟨hs1, ⟨_, rfl⟩, .back hs3 hvv, hs4, rfl, fun h => nomatch h⟩
        | exact ⟨hs1, ⟨_, rfl⟩, ⟨_, rfl⟩, hs4, rfl, fun h => nomatch h⟩
        | exact ⟨hs1, .back hs2 hvn, ⟨_, rfl⟩, hs4, rfl, fun h => absurd (show ns.isNone = false by assumption) (by rw [show ns = none from h]; decide)⟩
        | exact absurd (hcolon (by assumption)) (by rw [show (Builtin.Str.occurrences (Str.ofString ":;") (S [c]) 0 (Str.ofString ":;").length 1).isEmpty = true by assumption]; decide)
end Sp
end Mine
end
/-! part Igm -/
section
theorem Mine.startIgm : True := by
  w_top off
  exact trivial
open PySem PySem.W PyProof.Rows PySem.Calls PySem.Spec
set_option Elab.async false
set_option maxRecDepth 100000
namespace Mine
section
variable {prog : Program} {w : World} {A : Around} {E : Value → Shared → Prop} {s : Shared} {K : Frag} {x C Dd g : Addr} {ox : Obj} {name : Str} {Q : Value × List Value → Shared → Prop}
/-- x.name, a def of its class, x an object with nothing of its own -/
theorem ins_getm {pl : Sem Bool} {ga : String} (hcan : (Manifest.canonical ga != "object.__getattribute__") = false) (X : K.In s.heap) (I : InstAt s.heap x ox C (some dict0)) (hod : ox.dict = some Dd) (hDd : s.heap.get? Dd = some dict0) (hga : findIn K (.ref C) "__getattribute__" = some (some (.builtin ga))) (hgn : findIn K (.ref C) "__getattr__" = some none)
    (hm : findIn K (.ref C) name = some (some (.ref g))) (hf : typeIn K (.ref g) = some (.type "function")) (h : Q (.ref g, [.ref x]) s) :
    wpAny (model prog w) A (getMethod (.ref x) name pl) Q E s := by
  have T := I.type (M := model prog w)
  have G1 := looks_findIn (M := model prog w) X hga
  have G2 := looks_findIn (M := model prog w) X hgn
  have G3 := looks_findIn (M := model prog w) X hm
  have G4 := looks_typeIn (M := model prog w) X hf
  unfold getMethod specialOf
  refine wpAny_bind (wpAny_bind (T.here (G1.here ?_)))
  dsimp only
  rw [if_neg (by rw [hcan]; exact Bool.false_ne_true)]
  refine wpAny_bind (wpAny_bind (T.here (G2.here ?_)))
  rw [if_neg (by decide)]
  refine wpAny_bind (wpAny_bind (T.here (G3.here ?_)))
  dsimp only
  refine wpAny_bind (G4.here ?_)
  rw [if_neg (by decide)]
  refine wpAny_bind (wpAny_loadPart I.at_ ?_)
  rw [hod]
  dsimp only
  have hns : s.heap.Ns Dd (fun _ => none) := ⟨dict0, #[], 0, hDd, rfl, (fun _ h => by simp at h), fun _ => rfl⟩
  refine wpAny_bind (wpAny_nsGet hns ?_)
  rw [if_neg (by decide)]
  exact wpAny_bind (wpAny_rule (wpAny_pure h))
end
end Mine
end
/-! part Parts -/
section
theorem Mine.startParts : True := by
  w_top off
  exact trivial
local macro_rules | `(tactic| walk_at "pad0") => `(tactic| skip)
local macro_rules | `(tactic| walk_at "pad1") => `(tactic| skip)
local macro_rules | `(tactic| walk_at "pad2") => `(tactic| skip)
local macro_rules | `(tactic| walk_at "pad3") => `(tactic| skip)
local macro_rules | `(tactic| walk_at "pad4") => `(tactic| skip)
local macro_rules | `(tactic| walk_at "pad5") => `(tactic| skip)
local macro_rules | `(tactic| walk_at "pad6") => `(tactic| skip)
local macro_rules | `(tactic| walk_at "pad7") => `(tactic| skip)
local macro_rules | `(tactic| walk_at "pad8") => `(tactic| skip)
local macro_rules | `(tactic| walk_at "pad9") => `(tactic| skip)
local macro_rules | `(tactic| walk_at "pad10") => `(tactic| skip)
local macro_rules | `(tactic| walk_at "pad11") => `(tactic| skip)
local macro_rules | `(tactic| walk_at "pad12") => `(tactic| skip)
local macro_rules | `(tactic| walk_at "pad13") => `(tactic| skip)
local macro_rules | `(tactic| walk_at "pad14") => `(tactic| skip)
local macro_rules | `(tactic| walk_at "pad15") => `(tactic| skip)
local macro_rules | `(tactic| walk_at "pad16") => `(tactic| skip)
open PySem PySem.W PyProof.Rows PySem.Calls PySem.Spec
set_option Elab.async false
set_option maxRecDepth 100000
namespace Mine
section Pa
local macro_rules | `(tactic| walk_at "call ref") => `(tactic| refine TEnd.out ?_)
local macro_rules | `(tactic| walk_at "getMethod ref") => `(tactic| refine TEnd.out ?_)
local macro_rules | `(tactic| k_room) => `(tactic| ktr_room)
local macro_rules | `(tactic| k_units) => `(tactic| ktr_units)
local macro_rules | `(tactic| k_all) => `(tactic| assumption)
set_option pp.deepTerms false
set_option pp.maxSteps 3000
set_option maxHeartbeats 4000000 in
theorem parts_w {w : World} {mean : ExcName → Option Value} {mg mb : Str → Option Value}
    {dp un : Nat} {gd : Option (List Code)} {cn : Str} {nms : List (Str × NameKind)} {ig ic : Bool} {mo : List (Str × Const)} {a : Addr} {ccd : Value} {cl : List (Str × Addr)} {outer : List Env} {A₀ : Around} {base h₀ : Heap} {L : Addr} {m : Str → Option Value} {s : Shared}
    {Q E : Value → Shared → Prop} {news : List (Addr × Obj)} {y : Str} {t : Tok} {z : List Nat} {b : Bool} {oT oT3 : Obj} {x Dx : Addr}
    (B : Below A₀ base outer h₀) (F : Fr h₀ L s.heap m) (X : (K0 w.params).In h₀) (N : News h₀ L s.heap ((x, clob Dx y t #[some (.bool b)]) :: (Dx, dict0) :: (216, oT) :: (354, oT3) :: news)) (hn354 : ∀ p ∈ (x, clob Dx y t #[some (.bool b)]) :: (Dx, dict0) :: (216, oT) :: news, p.1 ≠ 354) (hn216 : ∀ p ∈ (x, clob Dx y t #[some (.bool b)]) :: (Dx, dict0) :: (354, oT3) :: news, p.1 ≠ 216) (T : Top hd.view_39 loos mean mg mb h₀) (XB : (K0 w.params).In base) (TB : Top hd.view_39 loos mean mg mb base) (D0 : KtsDicts (outer.filterMap (·.frame)) h₀) (G : AllBare s.gens)
    (hT : TabLike oT) (hT3 : TabLike oT3) (hy : y = S z)
    (hx : y.length ≤ 900) (hdp : dp ≤ 380) (hup : un ≤ 2900) {k v : Nat} {nb : Bool} (hk0 : 0 < k) (hkv : k ≤ v) (hvz : v < z.length) (hkv1 : k + 1 ≠ v) (hnm : NameOk (nameT b z k) nb) (hnml : (nameT b z k).length ≤ 900) (h92 : 92 ∉ (z.take v).drop (k + 1)) (hrl9 : (rawT b z k v).length ≤ 900) {px : List Nat} {kus : List (Str × UV)} (hpx : escT (rawT b z k v) = S px) (hpxl : px.length ≤ 900) (HN : kus.length ≤ (qs 59 (-1) px false [] [] 0).length) (HK : ∀ (i : Nat) (p : List Nat), i < kus.length → (qs 59 (-1) px false [] [] 0)[i]? = some p → ∃ ku, kus[i]? = some ku ∧ PTurn b p ku) (HBad : ∀ p, (qs 59 (-1) px false [] [] 0)[kus.length]? = some p → PBad p) (hnd : (kus.map fun p => Txt.upper p.1).Nodup) (hul : ∀ p ∈ kus, (Txt.upper p.1).length ≤ 1000 ∧ UVlen p.2) (hnd2 : (kus.map fun p => Txt.upper (unT (Txt.upper p.1))).Nodup) (hkl2 : ∀ p ∈ kus, (unT (Txt.upper p.1)).length ≤ 1000) (hxl2 : kus.length ≤ 1000) (hns : (spF z 0 ⟨none, none, false, false⟩).ns = some k) (hvs0 : (spF z 0 ⟨none, none, false, false⟩).vs = some v)
    (hErr : (nb = false ∨ kus.length < (qs 59 (-1) px false [] [] 0).length) → ∀ g' e t cx vs h' tk' gs' oT8 oT9, TabLike oT8 → TabLike oT9 → Fr h₀ L g' m → RaisedX base g' (envX cn { kind := .function, names := nms, isGenerator := ig, isCoroutine := ic, more := mo } L a ccd cl :: outer) e t cx vs [(216, oT8), (354, oT9)] h' → g'.UpToSlots h' → AllBare gs' → E (.ref e) { s with heap := h', toks := tk', gens := gs' })
    (hret : nb = true → kus.length = (qs 59 (-1) px false [] [] 0).length → ∀ T3 D Dd h' tk gs es ep ls kvs oT' oT3' tn tv, AllBare gs → TabLike oT' → TabLike oT3' → Fr h₀ L h' m → News h₀ L h' ((T3, { cls := .type "tuple", data := .seq #[.str (nameT b z k) tn, .ref D, .str (S (ub (z.drop (v + 1)))) tv] }) :: (D, DS.pob 282 Dd es ep) :: (Dd, dict0) :: (ls ++ (354, oT3') :: (216, oT') :: (x, clob Dx y t #[some (.bool b)]) :: (Dx, dict0) :: news)) → (∀ p ∈ (Dd, dict0) :: (354, oT3') :: (216, oT') :: (x, clob Dx y t #[some (.bool b)]) :: (Dx, dict0) :: news, p.1 ≠ D) → Ents es.toList kvs → UVals ls (kus.map fun p => (Txt.upper (unT (Txt.upper p.1)), unUV p.2)) kvs → Q (.ref T3) { s with heap := h', toks := tk, gens := gs }) :
    wpAny (model PySem.Challenge.rw_bl0007_01.row.prog w) (cal dp un gd cn nms ig ic mo L a ccd cl outer) (call (.ref 366) [.ref x]) Q E s := by
  have hrl : recursionLimit = 1000 := rfl
  have hcl : cLine = 9900 := rfl
  have hd1 : dp + 20 < recursionLimit := by have : recursionLimit = 1000 := rfl; omega
  have hu1 : un + 400 < cLine := by have : cLine = 9900 := rfl; omega
  revert X; k_fill; intro X
  refine wpAny_call ?_
  k_dflt (refine' code_def (binds := [(Str.ofString "self", .ref x)]) ?k1 ?k2 ?k3 ?k4 ?k5 ?kA ?kF ?kK ?k6 ?k7 ?k8 ?k9 ?kB ?_ ?c2 ?c3 ?c4 ?c5; (case kA => exact rfl); (case kF => exact rfl); (case kK => exact rfl); (case k1 => k_asm); (case k2 => k_asm); (case k3 => k_asm); (case k4 => k_asm); (case k5 => k_asm); (case k6 => k_is); (case k7 => k_is); (case k8 => k_room); (case k9 => exact BindsTo.of_eq rfl); (case c5 => decide); (case kB => exact locs rfl); (case c2 => exact rfl); (case c3 => exact rfl); (case c4 => exact rfl); k_whole; intro g' L' h' FG' F' N' B' X' T'; (try dsimp only); (try k_lift B'); (try k_fold))
  k_steps
  refine TEnd.mk ?_
  refine ins_getm (C := 395) (g := 359) (ga := "object.__getattribute__") (ox := clob Dx y t #[some (.bool b)]) (Dd := Dx) (by decide +kernel) (X'.keeps F'.keep) ⟨(N' _ (.head _)).1, rfl, rfl, (N' _ (.tail _ (.head _))).1⟩ rfl (N' _ (.tail _ (.head _))).1 (by k_is) (by k_is) (by k_is) (by k_is) ?_
  dsimp only
  k_steps
  refine TEnd.mk ?_
  refine raw_w (by assumption) F' X' N' hn354 hn216 T' XB TB (ktsD rfl FG' D0) G hT hT3 hy hx (by show dp + 1 ≤ 390; omega) (by show un + 3 ≤ 3000; omega) hk0 hkv hvz hkv1 hnm hnml h92 hrl9 hpx hpxl HN HK HBad hnd hul hnd2 hkl2 hxl2 hns hvs0 ?errP ?_
  case errP =>
    intro why g9 e9 t9 cx9 vs9 h9 tk9 gs9 oT8 oT9 hT8 hT9 F9 R9 U9 G9
    refine leave_onX (by assumption) F9 R9 U9 rfl ?_
    intro h10 R10 U10
    exact hErr why g' e9 t9 cx9 vs9 h10 _ gs9 oT8 oT9 hT8 hT9 FG' R10 U10 G9
  intro hnb hkeq T3 D Dd h2 tk2 gs2 es2 ep2 ls kvs oT2 oT32 tn tv G2 hT2 hT32 F2 N2 hD2 he2 hv2
  clear F' N'
  dsimp only
  k_steps
  refine TEnd.mk ?_
  rename_i h3 F3 N3
  refine ubs_w (X'.keeps F3.keep) (T'.keeps F3.keep) (by show dp + 1 < _; omega) rfl (by rw [S_len, List.length_drop]; rw [hy, S_len] at hx; omega) ?_
  intro t4 h4 tk4 k4
  have F4 := F3.keeps k4
  have N4 := N3.grown k4
  clear F3 N3
  dsimp only
  k_steps
  refine hret hnb hkeq _ D Dd _ _ _ es2 ep2 ls kvs oT2 oT32 tn t4 G2 hT2 hT32 (by assumption) (fun p hp => (by assumption : News h₀ L _ _) p ?_) hD2 he2 hv2
  rcases List.mem_cons.mp hp with h | h
  · simp [h]
  · exact .tail _ (.tail _ h)
end Pa
end Mine
end
/-! part Usubc -/
section
theorem Mine.startUsubc : True := by
  w_top off
  exact trivial
open PySem PySem.W PyProof.Rows PySem.Calls PySem.Spec
set_option Elab.async false
set_option pp.deepTerms false
set_option pp.maxSteps 4000
set_option maxRecDepth 100000
namespace Mine
open RX PySem.Builtin PySem.Builtin.Re
section
variable {prog : Program} {w : World} {A : Around} {E : Value → Shared → Prop} {s : Shared}
theorem named3 (a b : Value) : reNamed "re.Pattern.sub" "sub" ["repl", "string", "count"] 2 [a, b] [] = pure [some a, some b, none] := by kernel_rfl
theorem str_nocall : typeLookup (.type "str") "__call__" = pure none := by rw [typeLookup_type, builtinLookup_eq_fast]; kernel_rfl
theorem call_sub {p ct : Addr} {x q : List Nat} {t t0 : Tok} {Q : Value → Shared → Prop} (hx : x.length ≤ 100000) (I : IsPat s.heap p ct foldCode) (hF : UF.Fold x q)
    (h : ∀ t' h' tk, (∀ b o, s.heap.get? b = some o → h'.get? b = some o) → Q (.str (S q) t') { s with heap := h', toks := tk }) :
    wpAny (model prog w) A (call (.builtin "re.Pattern.sub") [.ref p, .str (Str.ofString "") t0, .str (S x) t]) Q E s := by
  have hT : s.TypeIs (.ref p) "re.Pattern" := let ⟨_, _, _, _, e⟩ := I.pat; ⟨_, e, rfl⟩
  refine entry_again slot_sub hT RX.entry_sub (args_sub _ _ _) ?_
  show wpAny _ _ (reSubstitute "re.Pattern.sub" "sub" false ⟨[.ref p, .str (Str.ofString "") t0, .str (S x) t], []⟩) _ _ s
  unfold reSubstitute
  refine wpAny_bind (wpAny_of_eq (named3 _ _) ?_)
  refine wpAny_bind (wpAny_pure ?_)
  refine wpAny_bind ?_
  refine wpAny_of_eq (a := none) str_nocall ?_
  show wpAny _ _ (asStr? (.str (Str.ofString "") t0) >>= _) _ _ _
  refine wpAny_bind (wpAny_of_eq (a := some (Str.ofString "")) rfl ?_)
  show wpAny _ _ (pure (!(Str.ofString "").cps.contains 92) >>= _) _ _ _
  refine wpAny_bind (wpAny_pure ?_)
  rw [show (!(Str.ofString "").cps.contains 92) = true from by decide +kernel]
  show wpAny _ _ (pure (Value.str (Str.ofString "") t0, 0) >>= _) _ _ _
  refine wpAny_bind (wpAny_pure ?_)
  dsimp only
  refine wpAny_bind (wpAny_holding (whole_ok I ?_))
  show wpAny _ _ (newList [] >>= _) _ _ _
  refine wpAny_bind (wpAny_newList ?_)
  have k0 : ∀ b o, s.heap.get? b = some o → (s.heap.push { cls := .type "list", data := .seq #[] 0 }).get? b = some o := fun b o e => Heap.get?_push_of_some _ e
  have hne : ∀ a o, s.heap.get? a = some o → s.heap.objs.size ≠ a := fun a o e => Nat.ne_of_gt (Heap.lt_size e)
  refine wpAny_pure ⟨Code.quiet_builtin _ (by decide +kernel), ?_⟩
  refine sub_loop (P := s.heap.objs.size) hx x.length 0 0 { s with heap := s.heap.push { cls := .type "list", data := .seq #[] 0 } } [] [] q 0 (by omega) (by omega) (I.keeps k0) ?_ ?_ (by simp) (by simp) (Heap.get?_push_size _ rfl) .nil hF ?_
  · obtain ⟨_, _, _, _, e⟩ := I.pat
    exact hne _ _ e
  · obtain ⟨_, _, e, _⟩ := I.tup
    exact hne _ _ e
  · intro t' h' tk hk
    exact h t' h' tk fun b o e => hk b o (Ne.symm (hne b o e)) (k0 b o e)
end
end Mine
end
/-! part Cfi -/
section
theorem Mine.startCfi : True := by
  w_top off
  exact trivial
open PySem PySem.W PyProof.Rows PySem.Calls PySem.Spec
set_option Elab.async false
set_option maxRecDepth 100000
namespace Mine
section Cfi
local macro_rules | `(tactic| walk_at "call ref") => `(tactic| refine TEnd.out ?_)
local macro_rules | `(tactic| walk_at "getMethod ref") => `(tactic| refine TEnd.out ?_)
local macro_rules | `(tactic| walk_at "call builtin:re.Pattern.sub") => `(tactic| refine TEnd.out ?_)
local macro_rules | `(tactic| k_room) => `(tactic| ktr_room)
local macro_rules | `(tactic| k_units) => `(tactic| ktr_units)
local macro_rules | `(tactic| k_all) => `(tactic| assumption)
set_option pp.deepTerms false
set_option pp.maxSteps 3000
set_option maxHeartbeats 4000000 in
theorem cfi_w {w : World} {mean : ExcName → Option Value} {mg mb : Str → Option Value}
    {dp un : Nat} {gd : Option (List Code)} {cn : Str} {nms : List (Str × NameKind)} {ig ic : Bool} {mo : List (Str × Const)} {a : Addr} {ccd : Value} {cl : List (Str × Addr)} {outer : List Env} {A₀ : Around} {base h₀ : Heap} {L : Addr} {m : Str → Option Value} {s : Shared}
    {Q E : Value → Shared → Prop} {news : List (Addr × Obj)} {args : Args} {y : Str} {t : Tok} {x z : List Nat} {b : Bool}
    (B : Below A₀ base outer h₀) (F : Fr h₀ L s.heap m) (X : (K0 w.params).In h₀) (N : News h₀ L s.heap news) (T : Top hd.view_39 loos mean mg mb h₀)
    (hb : BindsTo s (fdAt (K0 w.params) 381) args [(Str.ofString "cls", .ref 395), (Str.ofString "ical", .str y t), (Str.ofString "strict", .bool b)])
    (hy : y = S x) (hx : x.length ≤ 4000) (hF : UF.Fold x z) (hz : (S z).length ≤ 1000) (hnl : (Builtin.Str.occurrences (S z) (Str.ofString "\n") 0 (S z).length 1).isEmpty = true) (hdp : dp ≤ 400) (hup : un ≤ 4000)
    (hret : ∀ q Dx t' h' tk, Fr h₀ L h' m → News h₀ L h' ((q, clob Dx (S z) t' #[some (.bool b)]) :: (Dx, dict0) :: news) → (∀ p ∈ (Dx, dict0) :: news, p.1 ≠ q) → (∀ p ∈ news, p.1 ≠ Dx) → Q (.ref q) { s with heap := h', toks := tk }) :
    codeAny (model PySem.Challenge.rw_bl0007_01.row.prog w) (cal dp un gd cn nms ig ic mo L a ccd cl outer) (.call (.ref 381) args) (fun r s' => match r with | .ok (.ret v) => Q v s' | .ok _ => False | .error e => E e s') s := by
  have hrl : recursionLimit = 1000 := rfl
  have hcl : cLine = 9900 := rfl
  have hd1 : dp + 20 < recursionLimit := by omega
  have hu1 : un + 400 < cLine := by omega
  subst hy
  revert X; k_fill; intro X
  k_dflt (refine' code_def (binds := [(Str.ofString "cls", .ref 395), (Str.ofString "ical", .str (S x) t), (Str.ofString "strict", .bool b)]) ?k1 ?k2 ?k3 ?k4 ?k5 ?kA ?kF ?kK ?k6 ?k7 ?k8 ?k9 ?kB ?_ ?c2 ?c3 ?c4 ?c5; (case kA => exact rfl); (case kF => exact rfl); (case kK => exact rfl); (case k1 => k_asm); (case k2 => k_asm); (case k3 => k_asm); (case k4 => k_asm); (case k5 => k_asm); (case k6 => k_is); (case k7 => k_is); (case k8 => k_room); (case k9 => exact hb); (case c5 => decide); (case kB => exact locs rfl); (case c2 => exact rfl); (case c3 => exact rfl); (case c4 => exact rfl); k_whole; intro g' L' h' FG' F' N' B' X' T'; (try dsimp only); (try k_lift B'); (try k_fold))
  k_steps
  refine TEnd.mk ?_
  refine uni_w (X'.keeps F'.keep) (T'.keeps F'.keep) (by show dp + 1 < _; omega) ?_
  intro h1 tk1 k1
  have F1 := F'.keeps k1
  have N1 := N'.grown k1
  clear F' N'
  dsimp only
  k_steps
  refine TEnd.mk ?_
  rename_i h2 F2 N2
  refine RX.get_pat (pat_fold (X'.keeps F2.keep)) RX.slot_sub RX.type_sub ?_
  dsimp only
  k_steps
  refine TEnd.mk ?_
  refine call_sub (by omega) (pat_fold (X'.keeps F2.keep)) hF ?_
  intro t3 h3 tk3 k3
  have F3 := F2.keeps k3
  have N3 := N2.grown k3
  clear F2 N2
  dsimp only
  k_steps
  refine TEnd.mk ?_
  refine cl_w F3 X' N3 T' (by show dp + 1 ≤ 700; omega) (by show un + 3 ≤ 7000; omega) rfl hz hnl ?_
  intro q Dx t4 h4 tk4 F4 N4 hne1 hne2
  clear F3 N3
  dsimp only
  k_steps
  exact hret _ _ _ _ _ (by assumption) (by assumption) hne1 hne2
end Cfi
end Mine
end
/-! part Exl -/
section
theorem Mine.startExl : True := by
  w_top off
  exact trivial
open PySem PySem.W PyProof.Rows PySem.Calls PySem.Spec
set_option Elab.async false
set_option maxRecDepth 100000
namespace Mine
section
variable {prog : Program} {w : World} {A₀ : Around} {E : Value → Shared → Prop} {s : Shared} {base g G : Heap} {outer : List Env} {env : Env} {L e t : Addr} {m : Str → Option Value} {cx : Value} {vs : List Value} {b₀ : Stmt} {suite : List Stmt} {pos np : Pos} {rest : List ExceptHandler} {Q : Flow → Shared → Prop} {news : List (Addr × Obj)} {KF : Frag}
  {p : Program} {loose : List Str} {mean : ExcName → Option Value} {mg mb : Str → Option Value}
theorem caught_X (R : RaisedX base G (env :: outer) e t cx vs news s.heap) (F : Fr g L G m) (K : Below A₀ base outer g) (hsm : G.UpToSlots s.heap) (XB : KF.In base) (TB : Top p loose mean mg mb base) (D : KtsDicts (outer.filterMap (·.frame)) g)
    (hf : env.frame = some L) (hlo : env.locals = L) (hk : env.scope.kind = .function) (hg : env.globals = mainGlobals) (hbn : env.builtins = builtinsNs) (hx : env.kindOf (Str.ofString "ValueError") = some .globalImplicit)
    (ex : nsIn KF mainGlobals (Str.ofString "ValueError") = some none)
    (k : ∀ h' g' tk, KtsTurn (outer.filterMap (·.frame)) g g' → Fr g' L h' m → News g' L h' news → Below A₀ base outer g' → KF.In g' → Top p loose mean mg mb g' →
      wpAny (model prog w) ((A₀.deeper env).mark (some (.ref e))) (execs (b₀ :: suite) env)
        Q (notedBy (model prog w) ((A₀.deeper env).mark (some (.ref e))) env (cameBackBy (model prog w) (A₀.deeper env) env E))
        { s with heap := h', toks := tk }) :
    wpAny (model prog w) (A₀.deeper env) (noteFrame (.ref e) env)
      (fun _ s₂ => wpAny (model prog w) (A₀.deeper env) (setFlight (.ref e) none) (fun _ s₃ =>
        wpAny (model prog w) (A₀.deeper env) (handleBy (.ref e) env (.ExceptHandler (some (.Name (Str.ofString "ValueError") np)) none (b₀ :: suite) pos :: rest)) Q E s₃) E s₂) E s := by
  obtain ⟨B, b1, b2, b3, b4, b5, b6, b7, b8, b9⟩ := R
  have hfr : (A₀.deeper env).frames = some (env :: outer) := Around.frames_deeper K.stack
  have hL : B.get? L = none := (b6.mem (List.mem_filterMap.mpr ⟨env, .head _, hf⟩)).1
  refine note2 (B := B) hfr b6 hf b4 b5 b7 fun h1 f1 st1 => ?_
  refine flight (s := { s with heap := h1 }) (l := env :: outer) none st1.frames st1.base f1 fun h2 f2 st2 => ?_
  have st12 := st1.trans st2
  obtain ⟨g2, T2, F2, K2⟩ := turn_x (h₅ := h2) K F hf b2 st12.base (hsm.trans st12.slots)
  have X2 : KF.In g2 := XB.keeps K2.stays
  have P2 : TopRead p loose mg mb g2 := topRead_of (TB.keeps K2.stays)
  have ty : ({ s with heap := h2 } : Shared).TypeIs (.ref e) "ValueError" := by
    obtain ⟨T, oT, ts, ⟨oe, ws, he, hc, _⟩, _⟩ := f2
    exact ⟨oe, he, hc⟩
  refine wpAny_handleBy_builtin (X := "ValueError") (T := "ValueError") (b := true) PySem.F.isExc_ValueError PySem.F.notTuple_ValueError (by rw [isSubtype_type]; kernel_rfl) ?_
  refine Name_function_global hk hx (loadGlobal_builtin (by rw [hg]; exact P2.g.keeps F2.keep) (mg_none_of X2 P2.g ex) (by rw [hbn]; exact P2.b.keeps F2.keep) ((P2.builtins _ (by decide)).trans PyProof.Rows.Boot.«ValueError») ⟨rfl, ty, ?_⟩)
  refine flight (s := { s with heap := h2 }) (l := env :: outer) none st12.frames st12.base f2 fun h3 f3 st3 => ?_
  have st := st12.trans st3
  obtain ⟨g3, T3, F3, K3⟩ := turn_x (h₅ := h3) K F hf b2 st.base (hsm.trans st.slots)
  exact k h3 g3 _ T3 F3 (fun q hq => ⟨st.base _ _ (b3 q hq).1, (fun z => by have := (b3 q hq).1; rw [z, hL] at this; cases this), T3.none_ _ (kts_none F.keep (b3 q hq).2.1)⟩) K3 (XB.keeps K3.stays) (TB.keeps K3.stays)
end
end Mine
end
/-! part Dck -/
section
theorem Mine.startDck : True := by
  w_top off
  exact trivial
local macro_rules | `(tactic| walk_at "pad0") => `(tactic| skip)
local macro_rules | `(tactic| walk_at "pad1") => `(tactic| skip)
local macro_rules | `(tactic| walk_at "pad2") => `(tactic| skip)
local macro_rules | `(tactic| walk_at "pad3") => `(tactic| skip)
open PySem PySem.W PyProof.Rows PySem.Calls PySem.Spec
set_option Elab.async false
set_option maxRecDepth 100000
namespace Mine
local macro_rules | `(tactic| x_close) => `(tactic| exact ⟨_, _, _, _, rfl, rfl, mem_old (by assumption), (mem_at (by assumption) (.head _)).2, (mem_at (by assumption) (.head _)).1, rfl⟩)
theorem x_pkeys {w : World} {E : Value → Shared → Prop} {s : Shared} {D Dd : Addr} {es : Array DictEntry} {ep : Nat} (X : (K0 w.params).In s.heap) (hd : s.heap.get? D = some { cls := .ref 282, dict := some Dd, data := .dict es ep, slots := #[] }) :
    wpAny (model PySem.Challenge.rw_bl0007_01.row.prog w) A9 (PySem.call (.builtin "dict.keys") [.ref D]) (Made s fun o => o = { cls := .type "dict_keys", dict := none, data := .fields #[.ref D], slots := #[] }) E s := by
  unfold PySem.call Made
  x_run
theorem ty_keys : typeOf (.builtin "dict.keys") = pure (.type "method_descriptor") := by show builtinType _ = _; rw [builtinType_eq_fast]; kernel_rfl
section
variable {prog : Program} {w : World} {A : Around} {E : Value → Shared → Prop} {s : Shared}
theorem slot_keys_iter : Slot "dict_keys" "__iter__" "dict_keys.__iter__" :=
  .of (owner := "dict_keys") (n := "__iter__") (by rw [typeLookup_type, builtinLookup_eq_fast]; kernel_rfl) (by decide +kernel) (by decide +kernel) (by decide +kernel)
    (by first | exact .inl (by decide +kernel) | exact .inr (by decide +kernel)) (by rw [isSubtype_type]; kernel_rfl)
theorem entry_keys_iter : entryFor table "dict_keys.__iter__" = some Builtin.«dict_keys.__iter__» := entryFor_of_tree (by kernel_rfl)
theorem owner_dict_keys : Manifest.owners.lookup (String.ofList ['s', 'y', 'e', 'k', '_', 't', 'c', 'i', 'd'].reverse) = some Manifest.sig_dict_keys := by kernel_rfl
theorem args_keys_iter (a : Value) : argsOk "dict_keys.__iter__" ⟨[a], []⟩ := by
  unfold argsOk; rw [signature?_of (id := "dict_keys.__iter__") (n := ['_', '_', 'r', 'e', 't', 'i', '_', '_']) (o := ['s', 'y', 'e', 'k', '_', 't', 'c', 'i', 'd']) (by kernel_rfl) owner_dict_keys]; kernel_rfl
theorem keys_iter {v d : Addr} {ov od : Obj} {es : Array DictEntry} {ep : Nat} {Q : Value → Shared → Prop} (hov : s.heap.get? v = some ov) (hcv : ov.cls = .type "dict_keys") (hdv : ov.data = .fields #[.ref d]) (ho : s.heap.get? d = some od) (hd : od.data = .dict es ep)
    (hQ : Q (.ref s.heap.objs.size) { s with heap := s.heap.push { cls := .type "dict_keyiterator", data := .fields #[.ref d, .int 0 0, .int es.size 0, .int ep 0] } }) :
    wpAny (model prog w) A (pyIter (.ref v)) Q E s := by
  have hT : s.TypeIs (.ref v) "dict_keys" := ⟨ov, hov, hcv⟩
  refine wpAny_pyIter_slot hT slot_keys_iter (wpAny_call_entry slot_keys_iter hT entry_keys_iter ?_ (args_keys_iter _))
  unfold Builtin.«dict_keys.__iter__»
  refine wpAny_bind (wpAny_pure (wpAny_bind ?_))
  unfold Builtin.Dict_items.dictOf
  refine wpAny_bind (wpAny_field hov hdv (x := .ref d) rfl (wpAny_pure (wpAny_bind ?_)))
  unfold Builtin.Dict_items.newIterator
  refine wpAny_bind (wpAny_dictEntries ho hd (wpAny_bind (wpAny_dictEpoch ho hd ?_)))
  simp only [show Builtin.Dict_items.ownsTuple "dict_keyiterator" = false by decide, Bool.false_eq_true, if_false]
  refine wpAny_newObj_type (wpAny_pure ⟨_, rfl, "dict_keyiterator", _, ⟨_, Heap.get?_push_size _ rfl, rfl⟩, F.slot_dict_keyiterator_next.lookup, ?_⟩)
    (by first | size_fits | (simp only [sizeOk, sizeLine_eq]; simp))
  simpa [rawInt] using hQ
theorem key_next {it d : Addr} {i ep : Nat} {od : Obj} {es : Array DictEntry} {e : DictEntry} {Q : Option Value → Shared → Prop} (hit : s.heap.IsKeyIter it d i es.size ep)
    (hod : s.heap.get? d = some od) (hdd : od.data = .dict es ep) (hx : es[i]? = some e)
    (hQ : ∀ h', h'.IsKeyIter it d (i + 1) es.size ep → Heap.SameBut it s.heap h' → Q (some e.key) { s with heap := h' }) :
    wpAny (model prog w) A (pyNext (.ref it)) Q E s := by
  obtain ⟨o, ho, hc, hd⟩ := id hit
  unfold pyNext
  refine wpAny_bind (wpAny_attempt (wpAny_callSpecial?_slot (name := Str.ofString "__next__") hit.typeIs F.slot_dict_keyiterator_next
    (wpAny_call_entry F.slot_dict_keyiterator_next hit.typeIs F.entry_dict_keyiterator_next ?_ (F.args_dict_keyiterator_next_1 _))))
  refine wpAny_bind (wpAny_pure ?_)
  refine wpAny_bind ?_
  refine wpAny_bind ?_
  first | refine wpAny_bind (wpAny_typeNameOfWhole_keyiter hit.typeIs (wpAny_pure ?_)) | refine wpAny_bind (wpAny_typeNameOf_keyiter hit.typeIs (wpAny_pure ?_))
  refine wpAny_bind (wpAny_fieldsOf ho hd ?_)
  have hown : Builtin.Dict_items.ownsTuple "dict_keyiterator" = false := by decide
  simp only [hown, Bool.false_eq_true, if_false]
  show wpAny _ _ (if (Value.ref d == Value.none) = true then _ else _) _ _ s
  rw [if_neg (show ¬ ((Value.ref d == Value.none) = true) from Bool.false_ne_true)]
  refine wpAny_bind (wpAny_pure ?_)
  refine wpAny_bind (wpAny_dictEntries hod hdd ?_)
  rw [if_neg (by simp)]
  refine wpAny_bind (wpAny_pure ?_)
  refine wpAny_bind (wpAny_dictEpoch hod hdd ?_)
  rw [if_neg (by simp)]
  refine wpAny_pure ?_
  obtain ⟨hlt, hxe⟩ := Array.getElem?_eq_some_iff.mp hx
  simp only [show ¬ ((i : Int) < 0) from by omega, if_false, Int.toNat_natCast, Array.getElem?_eq_getElem hlt]
  rw [hxe]
  refine wpAny_bind ?_
  first | refine wpAny_bind (wpAny_typeNameOfWhole_keyiter hit.typeIs (wpAny_pure ?_)) | refine wpAny_bind (wpAny_typeNameOf_keyiter hit.typeIs (wpAny_pure ?_))
  refine wpAny_bind (wpAny_isOneOf_keyiter hit.typeIs ?_)
  show wpAny _ _ (setField (.ref it) 1 (rawInt ((i : Int) + 1)) >>= _) _ _ s
  refine wpAny_bind (wpAny_setField ho hd (by simp) ?_)
  have hit' : (s.heap.update it (Obj.mapFields (·.setIfInBounds 1 (rawInt ((i : Int) + 1))))).IsKeyIter it d (i + 1) es.size ep :=
    ⟨_, Heap.get?_update_self _ ho (Obj.isFreed_of_fields (Obj.data_mapFields hd _)), (Obj.cls_mapFields ..).trans hc, by rw [Obj.data_mapFields hd]; simp [rawInt]⟩
  refine wpAny_bind (wpAny_holding ?_)
  refine wpAny_bind (wpAny_isOneOf_keyiter (s := { s with heap := s.heap.update it (Obj.mapFields (·.setIfInBounds 1 (rawInt ((i : Int) + 1)))) }) hit'.typeIs ?_)
  show wpAny _ _ (pure e.key) _ _ _
  exact wpAny_pure (wpAny_pure ⟨_, rfl, wpAny_pure (hQ _ hit' (Heap.SameBut.update ..))⟩)
theorem key_end {it d : Addr} {i ep : Nat} {od : Obj} {es : Array DictEntry} {Q : Option Value → Shared → Prop} (hh : A.handled = none) (hit : s.heap.IsKeyIter it d i es.size ep)
    (hod : s.heap.get? d = some od) (hdd : od.data = .dict es ep) (hge : es.size ≤ i)
    (hQ : ∀ h', Heap.ExtBut it s.heap h' → Q none { s with heap := h' }) : wpAny (model prog w) A (pyNext (.ref it)) Q E s := by
  obtain ⟨o, ho, hc, hd⟩ := id hit
  unfold pyNext
  refine wpAny_bind (wpAny_attempt (wpAny_callSpecial?_slot (name := Str.ofString "__next__") hit.typeIs F.slot_dict_keyiterator_next
    (wpAny_call_entry F.slot_dict_keyiterator_next hit.typeIs F.entry_dict_keyiterator_next ?_ (F.args_dict_keyiterator_next_1 _))))
  refine wpAny_bind (wpAny_pure ?_)
  refine wpAny_bind ?_
  refine wpAny_bind ?_
  first | refine wpAny_bind (wpAny_typeNameOfWhole_keyiter hit.typeIs (wpAny_pure ?_)) | refine wpAny_bind (wpAny_typeNameOf_keyiter hit.typeIs (wpAny_pure ?_))
  refine wpAny_bind (wpAny_fieldsOf ho hd ?_)
  have hown : Builtin.Dict_items.ownsTuple "dict_keyiterator" = false := by decide
  simp only [hown, Bool.false_eq_true, if_false]
  show wpAny _ _ (if (Value.ref d == Value.none) = true then _ else _) _ _ s
  rw [if_neg (show ¬ ((Value.ref d == Value.none) = true) from Bool.false_ne_true)]
  refine wpAny_bind (wpAny_pure ?_)
  refine wpAny_bind (wpAny_dictEntries hod hdd ?_)
  rw [if_neg (by simp)]
  refine wpAny_bind (wpAny_pure ?_)
  refine wpAny_bind (wpAny_dictEpoch hod hdd ?_)
  rw [if_neg (by simp)]
  refine wpAny_pure ?_
  simp only [show ¬ ((i : Int) < 0) from by omega, if_false, Int.toNat_natCast, Array.getElem?_eq_none hge]
  refine wpAny_bind ?_
  first | refine wpAny_bind (wpAny_typeNameOfWhole_keyiter hit.typeIs (wpAny_pure ?_)) | refine wpAny_bind (wpAny_typeNameOf_keyiter hit.typeIs (wpAny_pure ?_))
  show wpAny _ _ (setField (.ref it) 0 .none >>= _) _ _ s
  refine wpAny_bind (wpAny_setField ho hd (by simp) ?_)
  show wpAny _ _ (newExc (.type "StopIteration") [] >>= _) _ _ _
  refine wpAny_bind ?_
  simp only [newExc, newTuple]
  refine wpAny_bind (wpAny_newObj_type ?_ (by size_fits))
  refine wpAny_bind (m := firstArgMember _ _) (wpAny_of_eq (a := Value.none) (by first | rfl | (simp only [firstArgMember]; rfl)) ?_)
  refine wpAny_newObj_type ?_ (by size_fits)
  simp only [raiseNew]
  refine wpAny_bind (wpAny_handled ?_)
  rw [show A.in1.handled = none from hh]
  refine wpAny_bind (wpAny_pure (wpAny_throw ?_))
  refine wpAny_bind (wpAny_isInstance (T := "StopIteration") (b := true) ⟨_, Heap.get?_push_size _ rfl, rfl⟩ isSubtype_stop ?_)
  exact wpAny_pure (hQ _ (((Heap.SameBut.update ..).extBut.push _).push _))
/-- the iterator over the keys as a walk -/
theorem keysP (hh : A.handled = none) (I d : Addr) (hne : d ≠ I) (od : Obj) (es : Array DictEntry) (ep : Nat) (hdd : od.data = .dict es ep) :
    Walks prog w A I [I, d] [I] es.size (fun i v => ∃ e, es[i]? = some e ∧ v = e.key) (fun i h => h.get? d = some od ∧ h.IsKeyIter I d i es.size ep) where
  sub := fun b hb => by rw [List.mem_singleton.mp hb]; exact .head _
  frame := fun i h h' st k => ⟨k d (.tail _ (.head _)) _ st.1, st.2.at fun o e => k I (.head _) _ e⟩
  item := fun i s Q E hi st hQ => by
    refine key_next st.2 st.1 hdd (Array.getElem?_eq_getElem hi) fun h' h1 h2 => ?_
    exact hQ _ h' s.toks ⟨_, Array.getElem?_eq_getElem hi, rfl⟩ ⟨h2.extBut d _ hne st.1, h1⟩ fun b o hb e => h2.extBut b o (by simpa using hb) e
  done := fun s Q E st hQ => key_end hh st.2 st.1 hdd (Nat.le_refl _) fun h' k => hQ h' s.toks fun b o hb e => k b o (by simpa using hb) e
  self := fun _ _ _ _ st hQ => wpAny_pyIter_keyiter st.2 hQ
end
end Mine
end
/-! part Dcf -/
section
theorem Mine.startDcf : True := by
  w_top off
  exact trivial
open PySem PySem.W PyProof.Rows PySem.Calls PySem.Spec
set_option Elab.async false
set_option maxRecDepth 100000
namespace Mine
inductive RunAll {K : Type} [DecidableEq K] (R : Nat → K → Value → Prop) : Nat → List (K × Value) → Prop
  | nil : RunAll R 0 []
  | snoc {i kvs k y} : RunAll R i kvs → R i k y → RunAll R (i + 1) (stored kvs k y)
theorem RunAll.le {K : Type} [DecidableEq K] {R : Nat → K → Value → Prop} {n : Nat} {kvs : List (K × Value)} (h : RunAll R n kvs) : kvs.length ≤ n := by
  induction h with
  | nil => exact Nat.le_refl _
  | @snoc i kvs k y _ _ ih => have := stored_length_le kvs k y; omega
section
variable {h₀ h h' : Heap} {L X : Addr} {m : Str → Option Value} {news : List (Addr × Obj)}
theorem fr_bu1 (F : Fr h₀ L h m) (hXL : X ≠ L) (hX0 : h₀.get? X = none) (hk : ∀ b o, b ≠ X → h.get? b = some o → h'.get? b = some o) : Fr h₀ L h' m := by
  obtain ⟨ob, es, ep, e1, e2⟩ := F.ns
  exact ⟨⟨ob, es, ep, hk _ _ (Ne.symm hXL) e1, e2⟩, fun b o e => hk _ _ (fun q => by rw [q, hX0] at e; cases e) (F.keep b o e), F.above⟩
theorem news_bu1 (N : News h₀ L h news) (hX : ∀ p ∈ news, p.1 ≠ X) (hk : ∀ b o, b ≠ X → h.get? b = some o → h'.get? b = some o) : News h₀ L h' news :=
  fun p hp => ⟨hk _ _ (hX p hp) (N p hp).1, (N p hp).2⟩
end
section
variable {prog : Program} {w : World} {A : Around} {E : Value → Shared → Prop} {s : Shared} {env : Env} {h₀ : Heap} {L : Addr} {m : Str → Option Value}
theorem dictComp_F {Kk : Type} [DecidableEq Kk] (knd : KeyKind prog w Kk) {kx vx iter : Expr} {x : Str} {px : Pos} {scope : Scope} {cl : List (Str × Addr)} {pos : Pos} {Q : Value → Shared → Prop} {n : Nat}
    (hclos : closureFor scope env = pure cl) (hcell : ∀ y ∈ scope.names, y.2 ≠ .cell) (hkind : scope.kind = .function)
    (hnames : ∀ y ∈ scope.names, y.2 = .local → scope.names.lookup y.1 = some .local) (hx : scope.names.lookup x = some .local)
    (R : Nat → Kk → Value → Prop) (news : List (Addr × Obj)) (hn : n ≤ sizeLine)
    (h : wpAny (model prog w) A (eval iter env) (fun xv s₁ => wpAny (model prog w) A (pyIter xv) (fun it s₂ => ∃ I fp P St, it = .ref I ∧ Walks prog w A I fp [I] n P St ∧ (∀ i h, St i h → ∃ o, h.get? I = some o) ∧ (∀ b ∈ fp, b = I ∨ ∃ o, (b, o) ∈ news) ∧ St 0 s₂.heap ∧
      Fr h₀ L s₂.heap m ∧ News h₀ L s₂.heap news ∧ (∀ p ∈ news, p.1 ≠ I) ∧ I ≠ L ∧ h₀.get? I = none ∧
      (∀ i v C oC D oD h tk m₂ oI (E' : Value → Shared → Prop), i < n → P i v → LCg.NsObj oC m₂ → m₂ x = some v → Fr h₀ L h m → News h₀ L h ((I, oI) :: (C, oC) :: (D, oD) :: news) →
        wpAny (model prog w) A (eval kx (compEnvC scope cl C env)) (fun key s₄ => wpAny (model prog w) A (eval vx (compEnvC scope cl C env)) (fun y s₅ => TEnd (∃ k h' tk', knd.is k key = true ∧ R i k y ∧ s₅ = { s₂ with heap := h', toks := tk' } ∧ Fr h₀ L h' m ∧ News h₀ L h' ((I, oI) :: (C, oC) :: (D, oD) :: news))) E' s₄) E' { s₂ with heap := h, toks := tk }) ∧
      (∀ D h' tk kvs, h₀.get? D = none → D ≠ L → (∀ p ∈ news, p.1 ≠ D) → h'.DictOf knd D kvs → RunAll R n kvs → Fr h₀ L h' m → News h₀ L h' news → TEnd (Q (.ref D) { s₂ with heap := h', toks := tk }))) E s₁) E s)
    (hs : ∀ x, foldedSetIterable iter env x = pure x) :
    wpAny (model prog w) A (eval (.DictComp kx vx [⟨.Name x px, iter, [], 0⟩] scope pos) env) Q E s := by
  rw [arm_eval_DictComp]
  refine wpAny_comprehension_free (use := none) rfl hs hclos hkind hnames (wpAny_mono h (fun xv s₁ h₁ => wpAny_mono h₁ (fun it s₂ h₂ => ?_) fun _ _ e => e) fun _ _ e => e)
  obtain ⟨I, fp, P, St, rfl, W, hsome, hfp, hst, F, N, hIn, hIL, hI0, turn, hQ⟩ := h₂
  refine wpAny_newObj_type (wpAny_newFunctionEnv hcell (by intro y hy; simp at hy) (fun h₁ hns₁ hsb₁ => ?_) hkind)
  dsimp only at hns₁ hsb₁ ⊢
  have hnew : (s₂.heap.push { cls := .type "dict", dict := none, data := .dict #[] }).DictOf knd s₂.heap.objs.size [] := Heap.DictOf.new s₂.heap
  have hk2 : ∀ b o, s₂.heap.get? b = some o → (s₂.heap.push { cls := .type "dict", dict := none, data := .dict #[] }).get? b = some o := fun b o e => Heap.get?_push_of_some _ e
  have hsz : (s₂.heap.push { cls := .type "dict", dict := none, data := .dict #[] }).objs.size = s₂.heap.objs.size + 1 := Heap.size_push ..
  generalize (s₂.heap.push { cls := .type "dict", dict := none, data := .dict #[] }) = H2 at hns₁ hsb₁ hnew hk2 hsz ⊢
  have hD1 : ∀ b o, s₂.heap.get? b = some o → b ≠ s₂.heap.objs.size := fun b o e => Nat.ne_of_lt (Heap.lt_size e)
  have hC1 : ∀ b o, s₂.heap.get? b = some o → b ≠ H2.objs.size := fun b o e => by rw [hsz]; exact Nat.ne_of_lt (Nat.lt_succ_of_lt (Heap.lt_size e))
  have hDC : (s₂.heap.objs.size : Addr) ≠ H2.objs.size := by rw [hsz]; exact Nat.ne_of_lt (Nat.lt_succ_self _)
  generalize hDe : s₂.heap.objs.size = D at hns₁ hsb₁ hnew hD1 hDC ⊢
  generalize hCe : H2.objs.size = C at hns₁ hsb₁ hC1 hDC ⊢
  have hup : ∀ b o, s₂.heap.get? b = some o → h₁.get? b = some o := fun b o e => hsb₁.extBut b o (hC1 b o e) (Heap.get?_push_of_some _ (hk2 b o e))
  have F1 : Fr h₀ L h₁ m := F.keeps hup
  have N1 : News h₀ L h₁ news := N.grown hup
  have hacc : h₁.DictOf knd D [] := hnew.at fun o e => hsb₁.extBut _ _ hDC (Heap.get?_push_of_some _ e)
  have hst1 : St 0 h₁ := W.frame _ _ _ hst fun b _ o e => hup b o e
  obtain ⟨oI0, hoI0⟩ := hsome _ _ hst
  have hID : I ≠ D := hD1 _ _ hoI0
  have hIC : I ≠ C := hC1 _ _ hoI0
  obtain ⟨oL, _, _, hoL, _⟩ := id F.ns
  have hLD : L ≠ D := hD1 _ _ hoL
  have hLC : L ≠ C := hC1 _ _ hoL
  have hnD : ∀ p ∈ news, p.1 ≠ D := fun p hp => hD1 _ _ (N p hp).1
  have hnC : ∀ p ∈ news, p.1 ≠ C := fun p hp => hC1 _ _ (N p hp).1
  have h0D : h₀.get? D = none := by
    cases e : h₀.get? D with
    | none => rfl
    | some o => exact absurd rfl (hD1 _ _ (F.keep _ _ e))
  have h0C : h₀.get? C = none := by
    cases e : h₀.get? C with
    | none => rfl
    | some o => exact absurd rfl (hC1 _ _ (F.keep _ _ e))
  have loop : ∀ s₃ : Shared, s₃ = { s₂ with heap := h₁, toks := s₂.toks + ([] : List (Str × Value)).length } →
      codeAny (model prog w) A (.compLoop (.DictComp kx vx [⟨.Name x px, iter, [], 0⟩] scope pos) 0 (.ref I) (.ref D) (compEnvC scope cl C env))
        (compPost (model prog w) A E none Q (.ref D) C) s₃ := by
    rintro s₃ rfl
    refine codeAny_compLoop_testsD (env := compEnvC scope cl C env) (fun k s' => ∃ i h tk kvs m', s' = { s₂ with heap := h, toks := tk } ∧ k = n + 1 - i ∧ i ≤ n ∧ St i h ∧ h.DictOf knd D kvs ∧ h.Ns C m' ∧ RunAll R i kvs ∧ Fr h₀ L h m ∧ News h₀ L h news) ?_ (n + 1)
      ⟨0, h₁, _, [], _, rfl, rfl, Nat.zero_le _, hst1, hacc, hns₁, .nil, F1, N1⟩
    rintro k s' ⟨i, h, tk, kvs, m', rfl, rfl, hi, hsti, hd, hC, hr, Fi, Ni⟩
    by_cases hlt : i < n
    · refine W.item i _ _ _ hlt hsti fun v h2 tk2 hPv hst2 hk3 => ?_
      have hk3' : ∀ b o, b ≠ I → h.get? b = some o → h2.get? b = some o := fun b o hb e => hk3 b o (by simpa using hb) e
      have F2 := fr_bu1 Fi hIL hI0 hk3'
      have N2 := news_bu1 Ni hIn hk3'
      have hC2 : h2.Ns C m' := hC.at' fun o e => hk3' _ o (Ne.symm hIC) e
      have hd2 : h2.DictOf knd D kvs := hd.at fun o e => hk3' _ o (Ne.symm hID) e
      refine wpAny_assign_Name (wpAny_storeName_local (env := compEnvC scope cl C env) (lookup_relabel_local hx) hC2 (fun h3 hn3 hs3 => ?_) (by simp [compEnvC, relabel, hkind]))
      replace hs3 : Heap.SameBut C h2 h3 := hs3
      replace hn3 : h3.Ns C (fun y => if y = x then some v else m' y) := hn3
      have F3 := fr_bu1 F2 (Ne.symm hLC) h0C hs3.extBut
      have N3 := news_bu1 N2 hnC hs3.extBut
      have hd3 : h3.DictOf knd D kvs := hd2.at fun o e => hs3.extBut _ o hDC e
      have hst3 : St (i + 1) h3 := W.frame _ _ _ hst2 fun b hb o e => hs3.extBut b o (by
        rcases hfp b hb with q | ⟨o', q⟩
        · rw [q]; exact hIC
        · exact hnC _ q) e
      obtain ⟨oI, hoI⟩ := hsome _ _ hst3
      obtain ⟨oC, ec, pc, hoC, hC4⟩ := id hn3
      obtain ⟨oD, ed, pd, hoD, hD4⟩ := id hd3
      refine wpAny_pure ?_
      rw [if_pos rfl]
      have N4 : News h₀ L h3 ((I, oI) :: (C, oC) :: (D, oD) :: news) := fun p hp => by
        rcases List.mem_cons.mp hp with rfl | hp
        · exact ⟨hoI, hIL, hI0⟩
        · rcases List.mem_cons.mp hp with rfl | hp
          · exact ⟨hoC, Ne.symm hLC, h0C⟩
          · rcases List.mem_cons.mp hp with rfl | hp
            · exact ⟨hoD, Ne.symm hLD, h0D⟩
            · exact N3 p hp
      refine wpAny_mono (turn i v C oC D oD h3 _ _ oI _ hlt hPv ⟨ec, pc, hC4⟩ (if_pos rfl) F3 N4) (fun key s₄ h₄ => wpAny_mono h₄ (fun y s₅ h₅ => ?_) fun _ _ e => e) fun _ _ e => e
      obtain ⟨k', h6, tk6, hkk, hR, rfl, F6, N6⟩ := h₅.out
      have hd6 : h6.DictOf knd D kvs := hd3.at fun o e => by rw [hoD] at e; cases e; exact (N6 _ (.tail _ (.tail _ (.head _)))).1
      have hn6 : h6.Ns C (fun y => if y = x then some v else m' y) := hn3.at' fun o e => by rw [hoC] at e; cases e; exact (N6 _ (.tail _ (.head _))).1
      have N7 : News h₀ L h6 news := fun p hp => N6 p (.tail _ (.tail _ (.tail _ hp)))
      have hst6 : St (i + 1) h6 := W.frame _ _ _ hst3 fun b hb o e => by
        rcases hfp b hb with rfl | ⟨o', q⟩
        · rw [hoI] at e; cases e; exact (N6 _ (.head _)).1
        · rw [(N3 _ q).1] at e; cases e; exact (N7 _ q).1
      refine wpAny_dictSet_pairs (hsz := by have := hr.le; omega) hkk hd6 fun h7 hl7 hs7 => ?_
      refine ⟨n + 1 - (i + 1), by omega, i + 1, h7, _, _, _, rfl, rfl, hlt, ?_, hl7, hn6.sameBut hs7 (Ne.symm hDC), hr.snoc hR, fr_bu1 F6 (Ne.symm hLD) h0D hs7.extBut, news_bu1 N7 hnD hs7.extBut⟩
      exact W.frame _ _ _ hst6 fun b hb o e => hs7.extBut b o (by
        rcases hfp b hb with q | ⟨o', q⟩
        · rw [q]; exact hID
        · exact hnD _ q) e
    · have hin : i = n := by omega
      have hstn : St n h := hin ▸ hsti
      have hrn : RunAll R n kvs := hin ▸ hr
      refine W.done _ _ _ hstn fun h2 tk2 hk3 => ?_
      have hk3' : ∀ b o, b ≠ I → h.get? b = some o → h2.get? b = some o := fun b o hb e => hk3 b o (by simpa using hb) e
      have F2 := fr_bu1 Fi hIL hI0 hk3'
      have N2 := news_bu1 Ni hIn hk3'
      have hC2 : h2.Ns C m' := hC.at' fun o e => hk3' _ o (Ne.symm hIC) e
      have hd2 : h2.DictOf knd D kvs := hd.at fun o e => hk3' _ o (Ne.symm hID) e
      refine ⟨m', hC2, fun h3 hs3 => ?_⟩
      exact (hQ D h3 tk2 kvs h0D (Ne.symm hLD) hnD (hd2.at fun o e => hs3.extBut _ o hDC e) hrn (fr_bu1 F2 (Ne.symm hLC) h0C hs3.extBut) (news_bu1 N2 hnC hs3.extBut)).out
  exact codeAny_compStart_dict (loop _ rfl) (W.self 0 _ _ _ hst1 (loop _ rfl))
end
end Mine
end
/-! part Deq -/
section
theorem Mine.startDeq : True := by
  w_top off
  exact trivial
open PySem PySem.W PyProof.Rows PySem.Calls PySem.Spec PyProof.V
set_option Elab.async false
set_option maxRecDepth 100000
namespace Mine
def UVok : UV → Prop
  | .one x => PyData.strOk x = true
  | .many xs => ∀ x ∈ xs, PyData.strOk x = true
theorem eqv_strs (xs : List Str) : PyData.eqv (.list (xs.map PyData.str)) (.list (xs.map PyData.str)) = true := by
  rw [← SeqAt.same_eq_eqv _ _ (SeqAt.noMix_of_shape (.list .str) rfl _ _ (list_map_has fun _ => rfl) (list_map_has fun _ => rfl))]
  simp only [PySem.Spec.same]
  rw [same_strs]
  simp
section
variable {A : Around} {s : Shared} {ls : List (Addr × Obj)}
theorem uv_eqAt {u : UV} {v y : Value} (hv : UVal ls u v) (hy : UVal ls u y) (N : ∀ p ∈ ls, s.heap.get? p.1 = some p.2) (hok : UVok u) (hu : A.in1.units + 64 < cLine) : SeqAt.EqAt A.in1 s v y true := by
  cases u with
  | one x =>
    obtain ⟨t, rfl⟩ := hv
    obtain ⟨t2, rfl⟩ := hy
    have h := SeqAt.EqAt.str_str (A := A.in1) (s := s) x t x t2
    rwa [beq_self_eq_true] at h
  | many xs =>
    obtain ⟨b1, y1, n1, rfl, m1, s1⟩ := hv
    obtain ⟨b2, y2, n2, rfl, m2, s2⟩ := hy
    have h := keq_at (A := A) (reads_newData ⟨_, N _ m1, rfl, _, rfl⟩ (strsC s1)) (reads_newData ⟨_, N _ m2, rfl, _, rfl⟩ (strsC s2)) (shaped_strs hok) (shaped_strs hok) hu
    rwa [eqv_strs] at h
theorem hits_uv {kb : List (Str × Value)} (N : ∀ p ∈ ls, s.heap.get? p.1 = some p.2) (hu : A.in1.units + 64 < cLine) : ∀ {xs : List (Str × UV)} {ka : List (Str × Value)}, UVals ls xs ka → (∀ p ∈ xs, UVok p.2 ∧ ∃ y, valueAt kb p.1 = some y ∧ UVal ls p.2 y) → KeqHits A.in1 s kb ka true
  | _, _, .nil, _ => .nil
  | _, _, .cons (k := k) (u := u) hv hr, h => by
    obtain ⟨h1, y, h2, h3⟩ := h (k, u) (.head _)
    have := KeqHits.hit h2 (uv_eqAt hv h3 N h1 hu) (hits_uv N hu hr fun p hp => h p (.tail _ hp))
    rwa [Bool.true_and] at this
theorem uvals_at {xs : List (Str × UV)} {kb : List (Str × Value)} (h : UVals ls xs kb) (hnd : (kb.map (·.1)).Nodup) : ∀ p ∈ xs, ∃ y, valueAt kb p.1 = some y ∧ UVal ls p.2 y := by
  induction h with
  | nil => exact fun p hp => nomatch hp
  | @cons k u v xs kvs hv hr ih =>
    intro p hp
    rw [List.map_cons, List.nodup_cons] at hnd
    rcases List.mem_cons.mp hp with rfl | hp
    · exact ⟨v, by simp [valueAt], hv⟩
    · obtain ⟨y, h1, h2⟩ := ih hnd.2 p hp
      refine ⟨y, ?_, h2⟩
      have hne : ¬ k = p.1 := fun e => hnd.1 (by
        rw [hr.keys, e]
        exact List.mem_map.mpr ⟨p, hp, rfl⟩)
      unfold valueAt at h1 ⊢
      rw [List.find?_cons, show decide (k = p.1) = false from decide_eq_false hne]
      exact h1
end
/-- the comprehension gathers the entries as they lie -/
theorem runAll_take {kvs : List (Str × Value)} (hnd : (kvs.map (·.1)).Nodup) {n : Nat} {r : List (Str × Value)} (h : RunAll (fun i k y => kvs[i]? = some (k, y)) n r) : n ≤ kvs.length ∧ r = kvs.take n := by
  induction h with
  | nil => exact ⟨Nat.zero_le _, rfl⟩
  | @snoc i r k y hr hR ih =>
    obtain ⟨h1, h2⟩ := ih
    have hlt : i < kvs.length := by
      rcases Nat.lt_or_ge i kvs.length with q | q
      · exact q
      · rw [List.getElem?_eq_none q] at hR; cases hR
    refine ⟨hlt, ?_⟩
    rw [List.take_add_one, hR, ← h2]
    refine stored_absent ?_ y
    cases hc : valueAt r k with
    | none => rfl
    | some z =>
      unfold valueAt at hc
      cases hf : r.find? (fun kv => kv.1 = k) with
      | none => rw [hf] at hc; cases hc
      | some q =>
        have hq1 := List.find?_some hf
        have hq2 := List.mem_of_find?_eq_some hf
        rw [h2] at hq2
        obtain ⟨j, hj, hjq⟩ := List.mem_iff_getElem.mp hq2
        rw [List.length_take] at hj
        rw [List.getElem_take] at hjq
        have hji : j = i := by
          refine (List.getElem?_inj (l := kvs.map (·.1)) (by rw [List.length_map]; omega) hnd).mp ?_
          rw [List.getElem?_map, List.getElem?_map, List.getElem?_eq_getElem (show j < kvs.length by omega), hjq, hR]
          simpa using hq1
        omega
section
variable {prog : Program} {w : World} {A : Around} {E : Value → Shared → Prop} {s : Shared} {ls : List (Addr × Obj)} {a b : Addr} {Q : Value → Shared → Prop} {ka kb : List (Str × Value)} {xs : List (Str × UV)}
theorem uv_eq (ha : (a == sysModules) = false) (hb : (b == sysModules) = false) (da : s.heap.DictOf (strKind prog w) a ka) (db : s.heap.DictOf (strKind prog w) b kb) (va : UVals ls xs ka) (vb : UVals ls xs kb) (N : ∀ p ∈ ls, s.heap.get? p.1 = some p.2) (hok : ∀ p ∈ xs, UVok p.2) (hu : A.units + 164 < cLine) (h : Q (.bool true) s) :
    wpAny (model prog w) A (compareOp .Eq (.ref a) (.ref b)) Q E s := by
  have hnd : (kb.map (·.1)).Nodup := by obtain ⟨_, _, _, _, _, _, _, _, h9⟩ := db; exact h9
  refine keq_eq (r := true) ha hb da db (by omega) (fun _ => hits_uv N (by show A.units + 1 + 64 < cLine; omega) va fun p hp => ⟨hok p hp, uvals_at vb hnd p hp⟩) ?_
  have hl : ka.length = kb.length := by rw [uvals_len va, uvals_len vb]
  rw [hl, beq_self_eq_true, Bool.true_and]
  exact h
end
end Mine
end
/-! part Pl3 -/
section
theorem Mine.startPl3 : True := by
  w_top off
  exact trivial
open PySem PySem.W PyProof.Rows PySem.Calls PySem.Spec PySem.Builtin PySem.Builtin.Str
set_option Elab.async false
namespace Mine
theorem upper_S (l : List Nat) : Txt.upper (S l) = S (l.flatMap Unicode.upperOf) := by
  apply Str.ext'
  have h : ∀ l : List Nat, List.map Array.toList (List.mapIdx (fun _ c => (Unicode.upperOf c).toArray) l) = List.map Unicode.upperOf l := fun l => by
    apply List.ext_getElem?
    intro i
    simp
    cases l[i]? <;> rfl
  simp [Txt.upper, placed, List.flatMap, h]
def f37 (c : Nat) : List Nat := if c = 37 then [37, 50, 53] else [c]
def e1 (c : Nat) : List Nat := (escC c).flatMap f37
theorem rf_c {c : Nat} (h : c ≠ 94) : ∀ r : List Nat, rf (c :: r) = c :: rf r
  | [] => rfl
  | d :: r => by rw [rf, if_neg (fun e => h e.1), if_neg (fun e => h e.1), if_neg (fun e => h e.1)]
theorem rf_e1 : ∀ t : List Nat, rf (t.flatMap e1) = t.flatMap f37
  | [] => rfl
  | c :: t => by
    have ih := rf_e1 t
    rw [List.flatMap_cons, List.flatMap_cons]
    generalize t.flatMap e1 = u at ih ⊢
    generalize t.flatMap f37 = v at ih ⊢
    by_cases h1 : c = 94
    · subst h1
      show rf (94 :: 94 :: u) = 94 :: v
      rw [rf, if_pos ⟨rfl, rfl⟩, ih]
    · by_cases h2 : c = 10
      · subst h2
        show rf (94 :: 110 :: u) = 10 :: v
        rw [rf, if_neg (by simp), if_pos ⟨rfl, rfl⟩, ih]
      · by_cases h3 : c = 34
        · subst h3
          show rf (94 :: 39 :: u) = 34 :: v
          rw [rf, if_neg (by simp), if_neg (by simp), if_pos ⟨rfl, rfl⟩, ih]
        · by_cases h4 : c = 37
          · subst h4
            show rf (37 :: 50 :: 53 :: u) = 37 :: 50 :: 53 :: v
            rw [rf_c (by decide), rf_c (by decide), rf_c (by decide), ih]
          · have e : e1 c = [c] := by simp [e1, escC, f37, h1, h2, h3, h4]
            rw [e, show f37 c = [c] from if_neg h4]
            show rf (c :: u) = c :: v
            rw [rf_c h1, ih]
theorem rep_c {y z : List Nat} {d : Nat} {r : List Nat} (hy : y = d :: r) {c : Nat} (h : c ≠ d) (l : List Nat) : rep y z (c :: l) = c :: rep y z l := by
  rw [rep_cons (by rw [hy]; simp), if_neg]
  subst hy
  simp only [List.isPrefixOf, Bool.and_eq_true, beq_iff_eq]
  exact fun e => h e.1.symm
/-- %25 is none of the others -/
theorem rep_f37 {a b : Nat} {z : List Nat} (h : ¬ (a = 50 ∧ b = 53)) : ∀ t : List Nat, rep [37, a, b] z (t.flatMap f37) = t.flatMap f37
  | [] => rfl
  | c :: t => by
    have ih := rep_f37 (z := z) h t
    rw [List.flatMap_cons]
    generalize t.flatMap f37 = v at ih ⊢
    by_cases h4 : c = 37
    · subst h4
      show rep _ _ (37 :: 50 :: 53 :: v) = 37 :: 50 :: 53 :: v
      rw [rep_cons (by simp), if_neg, rep_c rfl (by decide), rep_c rfl (by decide), ih]
      simp only [List.isPrefixOf, Bool.and_eq_true, beq_iff_eq, and_true]
      exact fun e => h ⟨e.2.1, e.2.2⟩
    · rw [show f37 c = [c] from if_neg h4]
      show rep _ _ (c :: v) = c :: v
      rw [rep_c rfl h4, ih]
theorem rep_back : ∀ t : List Nat, rep [37, 50, 53] [37] (t.flatMap f37) = t
  | [] => rfl
  | c :: t => by
    have ih := rep_back t
    rw [List.flatMap_cons]
    generalize t.flatMap f37 = v at ih ⊢
    by_cases h4 : c = 37
    · subst h4
      show rep _ _ (37 :: 50 :: 53 :: v) = _
      rw [rep_cons (by simp), if_pos (by simp [List.isPrefixOf])]
      show [37] ++ rep _ _ v = _
      rw [ih]; rfl
    · rw [show f37 c = [c] from if_neg h4]
      show rep _ _ (c :: v) = c :: _
      rw [rep_c rfl h4, ih]
theorem unT_f37 (t : List Nat) : unT (S (t.flatMap f37)) = S t := by
  unfold unT
  rw [show Str.ofString "%2C" = S [37, 50, 67] from by decide +kernel, show Str.ofString "%3A" = S [37, 51, 65] from by decide +kernel, show Str.ofString "%3B" = S [37, 51, 66] from by decide +kernel, show Str.ofString "%5C" = S [37, 53, 67] from by decide +kernel,
    show Str.ofString "%25" = S [37, 50, 53] from by decide +kernel, show Str.ofString "," = S [44] from by decide +kernel, show Str.ofString ":" = S [58] from by decide +kernel, show Str.ofString ";" = S [59] from by decide +kernel, show Str.ofString "\\" = S [92] from by decide +kernel, show Str.ofString "%" = S [37] from by decide +kernel]
  have h : ∀ (a b : Nat) (z : List Nat), ¬ (a = 50 ∧ b = 53) → Txt.replace (S (t.flatMap f37)) (S [37, a, b]) (S z) = S (t.flatMap f37) := fun a b z hn => by rw [replace_S (by simp), rep_f37 hn]
  rw [h _ _ _ (by decide), h _ _ _ (by decide), h _ _ _ (by decide), h _ _ _ (by decide), replace_S (by simp), rep_back]
/-! one value: written, guarded, read -/
def up1 (c : Nat) : Nat := if c = 97 then 65 else if c = 110 then 78 else if c = 233 then 201 else c
theorem up_marks : ∀ c ∈ marks, Unicode.upperOf c = [up1 c] := by decide +kernel
theorem up_e1 : ∀ c ∈ marks, c ≠ 10 → (e1 c).flatMap Unicode.upperOf = e1 (up1 c) := by decide +kernel
theorem upper_marks : ∀ {t : List Nat}, (∀ c ∈ t, c ∈ marks) → t.flatMap Unicode.upperOf = t.map up1
  | [], _ => rfl
  | c :: t, h => by rw [List.flatMap_cons, up_marks c (h c (.head _)), upper_marks fun d hd => h d (.tail _ hd)]; rfl
theorem upper_e1 : ∀ {t : List Nat}, (∀ c ∈ t, c ∈ marks ∧ c ≠ 10) → (t.flatMap e1).flatMap Unicode.upperOf = (t.map up1).flatMap e1
  | [], _ => rfl
  | c :: t, h => by
    have h1 := h c (.head _)
    rw [List.flatMap_cons, List.flatMap_append, up_e1 c h1.1 h1.2, upper_e1 fun d hd => h d (.tail _ hd), List.map_cons, List.flatMap_cons]
theorem escP_f37 (t : List Nat) : (escP t).flatMap f37 = t.flatMap e1 := by
  unfold escP e1
  rw [← List.flatMap_def, List.flatMap_assoc]
/-- the signs of a guarded text -/
theorem e1_mem : ∀ c ∈ marks, ∀ d ∈ e1 c, d ≠ 34 ∧ d ≠ 10 ∧ (d ∈ [97, 110, 44, 59, 58, 39, 233, 37, 94, 66, 50, 53]) ∧ (c ≠ 44 ∧ c ≠ 59 ∧ c ≠ 58 → d ≠ 44 ∧ d ≠ 59 ∧ d ≠ 58) := by decide +kernel
end Mine
end
/-! part Uvk -/
section
theorem Mine.startUvk : True := by
  w_top off
  exact trivial
open PySem PySem.W PyProof.Rows PySem.Calls PySem.Spec
set_option Elab.async false
namespace Mine
theorem marks_lt2 : ∀ c ∈ marks, c < 0x110000 ∧ up1 c < 0x110000 := by decide +kernel
theorem rdP_ok {b q : Bool} {t : List Nat} (h : ∀ c ∈ t, c ∈ marks) : PyData.strOk (rdP b q t) = true := by
  have h1 : PyData.strOk (S t) = true := by
    simp only [PyData.strOk, S, List.all_toArray, List.all_eq_true, decide_eq_true_eq]
    exact fun c hc => (marks_lt2 c (h c hc)).1
  have h2 : PyData.strOk (Txt.upper (S t)) = true := by
    rw [upper_S, upper_marks h]
    simp only [PyData.strOk, S, List.all_toArray, List.all_eq_true, decide_eq_true_eq]
    intro c hc
    obtain ⟨d, hd, rfl⟩ := List.mem_map.mp hc
    exact (marks_lt2 d (h d hd)).2
  unfold rdP
  split
  · exact h1
  · exact h2
theorem zip_ok {b : Bool} : ∀ {qs : List Bool} {ts : List (List Nat)}, (∀ t ∈ ts, ∀ c ∈ t, c ∈ marks) → ∀ x ∈ List.zipWith (rdP b) qs ts, PyData.strOk x = true
  | [], _, _, x, h => by simp at h
  | _ :: _, [], _, x, h => by simp at h
  | q :: qs, t :: ts, hm, x, h => by
    rw [List.zipWith_cons_cons] at h
    rcases List.mem_cons.mp h with e | e
    · rw [e]; exact rdP_ok (hm t (.head _))
    · exact zip_ok (fun u hu => hm u (.tail _ hu)) x e
theorem dueP_ok {bl : Int} {i : Nat} {b : Bool} {p : PD} (h : PDok bl i p) : UVok (dueP b p).2 := by
  have hz := zip_ok (b := b) (qs := p.qs) h.marks
  show UVok (uvL (List.zipWith (rdP b) p.qs p.ts))
  generalize List.zipWith (rdP b) p.qs p.ts = l at hz
  match l, hz with
  | [], hz => exact fun x hx => nomatch hx
  | [x], hz => exact hz x (.head _)
  | x :: y :: r, hz => exact hz
end Mine
end
/-! part LawE -/
section
theorem Mine.startLawE : True := by
  w_top off
  exact trivial
local macro_rules | `(tactic| walk_at "pad0") => `(tactic| skip)
local macro_rules | `(tactic| walk_at "pad1") => `(tactic| skip)
local macro_rules | `(tactic| walk_at "pad2") => `(tactic| skip)
local macro_rules | `(tactic| walk_at "pad3") => `(tactic| skip)
local macro_rules | `(tactic| walk_at "pad4") => `(tactic| skip)
open PySem PySem.W PyProof.Rows PySem.Calls PySem.Spec
set_option Elab.async false
set_option maxRecDepth 100000
namespace Mine
/-- what parts wants to know of the line -/
structure PP (b : Bool) (z : List Nat) (k v : Nat) (nb : Bool) (px : List Nat) (kus : List (Str × UV)) : Prop where
  hk0 : 0 < k
  hkv : k ≤ v
  hvz : v < z.length
  hkv1 : k + 1 ≠ v
  hnm : NameOk (nameT b z k) nb
  hnml : (nameT b z k).length ≤ 900
  h92 : 92 ∉ (z.take v).drop (k + 1)
  hrl9 : (rawT b z k v).length ≤ 900
  hpx : escT (rawT b z k v) = S px
  hpxl : px.length ≤ 900
  HN : kus.length ≤ (qs 59 (-1) px false [] [] 0).length
  HK : ∀ (i : Nat) (p : List Nat), i < kus.length → (qs 59 (-1) px false [] [] 0)[i]? = some p → ∃ ku, kus[i]? = some ku ∧ PTurn b p ku
  HBad : ∀ p, (qs 59 (-1) px false [] [] 0)[kus.length]? = some p → PBad p
  hnd : (kus.map fun p => Txt.upper p.1).Nodup
  hul : ∀ p ∈ kus, (Txt.upper p.1).length ≤ 1000 ∧ UVlen p.2
  hnd2 : (kus.map fun p => Txt.upper (unT (Txt.upper p.1))).Nodup
  hkl2 : ∀ p ∈ kus, (unT (Txt.upper p.1)).length ≤ 1000
  hxl2 : kus.length ≤ 1000
  hns : (spF z 0 ⟨none, none, false, false⟩).ns = some k
  hvs : (spF z 0 ⟨none, none, false, false⟩).vs = some v
/-- the line is read as it was written, or refused where it is to be -/
def PureOk (b : Bool) (nm : List Nat) (bl : Int) (ps : List PD) (tx z : List Nat) : Prop :=
  ∃ k v nb px kus, PP b z k v nb px kus ∧
    ((nb = true ∧ kus.length = (qs 59 (-1) px false [] [] 0).length ∧ ¬ (b = true ∧ bl < 1 + 2 * (ps.length : Int)) ∧ nameT b z k = S nm ∧ ub (z.drop (v + 1)) = tx ∧ (kus.map fun p => (Txt.upper (unT (Txt.upper p.1)), unUV p.2)) = ps.map (dueP b)) ∨
     ((nb = false ∨ kus.length < (qs 59 (-1) px false [] [] 0).length) ∧ b = true ∧ bl < 1 + 2 * (ps.length : Int)))
theorem UVals.filter {ls : List (Addr × Obj)} {p : Addr × Obj → Bool} (h : ∀ q ∈ ls, (∃ (ys : Array Value) (n : Nat), q.2 = listOf ys n) → p q = true) : ∀ {xs : List (Str × UV)} {kvs : List (Str × Value)}, UVals ls xs kvs → UVals (ls.filter p) xs kvs
  | _, _, .nil => .nil
  | _, _, .cons (u := u) hv hr => .cons (by
      cases u with
      | one x => exact hv
      | many zs =>
        obtain ⟨b, ys, n, e, m, r⟩ := hv
        exact ⟨b, ys, n, e, List.mem_filter.mpr ⟨m, h _ m ⟨_, _, rfl⟩⟩, r⟩) (hr.filter h)
theorem Ents.get : ∀ {es : List DictEntry} {kvs : List (Str × Value)} {i : Nat} {e : DictEntry}, Ents es kvs → es[i]? = some e → ∃ k t v, kvs[i]? = some (k, v) ∧ e.key = .str k t ∧ e.val = v
  | _, _, i, e, .nil, h => by cases i <;> cases h
  | _, _, 0, e, .cons x t hs v r, h => by cases h; exact ⟨x, t, v, rfl, rfl, rfl⟩
  | _, _, i + 1, e, .cons x t hs v r, h => r.get h
theorem lookup_nd : ∀ {kvs : List (Str × Value)} {i : Nat} {k : Str} {v : Value}, (kvs.map (·.1)).Nodup → kvs[i]? = some (k, v) → kvs.lookup k = some v
  | [], i, _, _, _, h => by cases i <;> cases h
  | (k0, v0) :: r, 0, k, v, _, h => by cases h; simp
  | (k0, v0) :: r, i + 1, k, v, hn, h => by
    rw [List.map_cons, List.nodup_cons] at hn
    have hne : (k == k0) = false := beq_eq_false_iff_ne.mpr fun e => hn.1 (by
      rw [← e]
      exact List.mem_map.mpr ⟨(k, v), List.mem_of_getElem? (by simpa using h), rfl⟩)
    rw [List.lookup_cons, hne]
    exact lookup_nd hn.2 (by simpa using h)
theorem sysM_ne {h₀ : Heap} {mean : ExcName → Option Value} {mg mb : Str → Option Value} {D : Addr} (T : Top hd.view_39 loos mean mg mb h₀) (h0 : h₀.get? D = none) : (D == sysModules) = false := by
  obtain ⟨mm, ⟨o, _, _, e, _⟩, _⟩ := (T.seer (by kernel_rfl)).mods
  exact beq_eq_false_iff_ne.mpr fun q => by rw [← q, h0] at e; cases e
inductive IfStop : Prop
  | mk
section LawE
local macro_rules | `(tactic| walk_at "exec If") => `(tactic| (have _hs := (by assumption : IfStop); refine TEnd.out ?_))
local macro_rules | `(tactic| walk_at "call ref") => `(tactic| refine TEnd.out ?_)
local macro_rules | `(tactic| walk_at "getMethod ref") => `(tactic| ((with_reducible show wpAny _ _ (getMethod (Value.ref _) (Str.ofString "parts") _) _ _ _); refine TEnd.out ?_))
local macro_rules | `(tactic| walk_at "getMethod ref") => `(tactic| ((with_reducible show wpAny _ _ (getMethod (Value.ref _) (Str.ofString "keys") _) _ _ _); refine TEnd.out ?_))
local macro_rules | `(tactic| walk_at "call builtin:dict.keys") => `(tactic| refine TEnd.out ?_)
local macro_rules | `(tactic| walk_at "pyIter ref") => `(tactic| refine TEnd.out ?_)
local macro_rules | `(tactic| walk_at "subscriptTail") => `(tactic| refine TEnd.out ?_)
local macro_rules | `(tactic| walk_at "compareOp Eq ref ref") => `(tactic| refine TEnd.out ?_)
local macro_rules | `(tactic| walk_at "call builtin:str.join") => `(tactic| refine TEnd.out ?_)
local macro_rules | `(tactic| walk_at "eval DictComp") => `(tactic| refine TEnd.out ?_)
local macro_rules | `(tactic| k_room) => `(tactic| ktr_room)
local macro_rules | `(tactic| k_units) => `(tactic| ktr_units)
local macro_rules | `(tactic| k_all) => `(tactic| assumption)
local macro_rules | `(tactic| walk_at "eval Name") => `(tactic| (k_here; k_dflt (refine' nameX_L ?F ?v ?_ ?a ?b; (case a => rfl); (case b => rfl); (case F => k_asm); (case v => first | exact rfl | assumption); k_whole)))
set_option pp.deepTerms false
set_option pp.maxSteps 2000
set_option maxHeartbeats 4000000 in
theorem law_e {w : World} {mean : ExcName → Option Value} {mg mb : Str → Option Value} {h₀ : Heap} {L f : Addr} {cd : Value} {s : Shared}
    {Q : Flow → Shared → Prop} {E : Value → Shared → Prop} {oA : Obj} {b : Bool} {nm : List Nat} {bl : Int} {sg : Nat} {ps : List PD} {tx z y : List Nat} {ty : Tok} {m : Str → Option Value} {nw : List (Addr × Obj)} (dA : oA.data = .cell none)
    (B : Below callerA h₀ [] h₀) (X : (K0 w.params).In h₀) (T : Top hd.view_39 loos mean mg mb h₀) (F : Fr h₀ L s.heap m) (N : News h₀ L s.heap nw) (p7 : P7 w L oA b nm bl sg ps tx z m nw) (hf : UF.Fold y z) (hyl : y.length ≤ 400) (hou : m (Str.ofString "out") = some (.str (S y) ty)) (pure : PureOk b nm bl ps tx z) (G : AllBare s.gens)
    (hret : ∀ h' tk gs m' p1 p2, Fr h₀ L h' m' → AllBare gs → h'.get? 216 = some (tabObj p1) → h'.get? 354 = some (tabObj p2) → TEnd (Q (.ret (.bool true)) { s with heap := h', toks := tk, gens := gs })) :
    LawAt w 11 L f cd Q E s := by
  refine ⟨?_⟩
  revert X; k_fill; intro X
  show wpAny _ (Around.deeper _ (envOfC _ ⟨_, _, _, _, _⟩ _ _ _)) (execs (Stmt.Try _ _ _ _ _ :: _) (envOfC _ ⟨_, _, _, _, _⟩ _ _ _)) _ _ _
  obtain ⟨hz6, hz80⟩ := p7.zlen
  have hcl := p7.clean
  have hb := p7.strict
  obtain ⟨tnm, hnm1⟩ := p7.name
  obtain ⟨tbl, hbl⟩ := p7.blank
  obtain ⟨tpl, hpl1⟩ := p7.places
  obtain ⟨st, sc, ws, us, n2, o, oB, oc, D, od, ls, kvs, Tx, tys, tz, hdu, htx, rfl, hS, hIw, hul, doc, dB, hne, hst, hod, huv, hty, hDs, hDn, hls, hll⟩ := p7.led
  have hty0 : TEnd (StrsAre tys (tx.map fun c => S [c])) := ⟨hty⟩
  clear hty
  refine wpAny_execs_cons ?_
  refine wpAny_Try_except ?_
  k_steps
  rename_i q1 h1 F1 N1 lt1
  refine callWith_MKW (K := K0 w.params) (q := q1) (g := 381) (self := .ref 395) (by k_is) (by rfl) ?_
  k_steps
  refine TEnd.mk ?_
  refine call_meth N1 (.head _) ?_
  have h10 : (Builtin.Str.occurrences (S z) (Str.ofString "\n") 0 (S z).length 1).isEmpty = true := by
    rw [show Str.ofString "\n" = S [10] from by decide +kernel, occ_S]
    simp only [Bool.not_eq_true', decide_eq_false_iff_not]
    exact fun h => (hcl 10 h).2 rfl
  refine cfi_w (x := y) (z := z) (b := b) (t := ty) (news := (D, od) :: LedA st o sc ws n2 L oA oB oc ((Tx, LCg.lst tys) :: ls)) B F1 X (fun p hp => N1 p (.tail _ hp)) T ?hbF rfl (by omega) hf (by rw [S_len]; omega) h10 (by decide) (by decide) ?_
  case hbF =>
    refine hb_of (X.keeps F1.keep) (by k_is) rfl ?_
    first | exact BindsTo.of_eq rfl | exact binds_K (X.keeps F1.keep) rfl (by k_is) rfl rfl rfl
  intro q2 Dx t2 h2 tk2 F2 N2 hq2 hDx
  clear F1 N1
  dsimp only
  k_steps
  refine TEnd.mk ?_
  refine ins_getm (C := 395) (g := 366) (ga := "object.__getattribute__") (ox := clob Dx (S z) t2 #[some (.bool b)]) (Dd := Dx) (by decide +kernel) (X.keeps F2.keep) ⟨(N2 _ (.head _)).1, rfl, rfl, (N2 _ (.tail _ (.head _))).1⟩ rfl (N2 _ (.tail _ (.head _))).1 (by k_is) (by k_is) (by k_is) (by k_is) ?_
  dsimp only
  k_steps
  refine TEnd.mk ?_
  have hT9 : ∀ t : Addr, (t = 216 ∨ t = 354) → (t, tabObj #[]) ∈ ls → ∀ p ∈ (q2, clob Dx (S z) t2 #[some (.bool b)]) :: (Dx, dict0) :: (D, od) :: LedA st o sc ws n2 L oA oB oc ((Tx, LCg.lst tys) :: ls.filter fun p => p.1 != 216 && p.1 != 354), p.1 ≠ t := by
    intro t ht hm p hp
    simp only [List.mem_cons] at hp
    rcases hp with e | e | e | e | e | e | e | e | e | e
    · rw [e]; exact fun q => hq2 (t, tabObj #[]) (by simp [hm]) q.symm
    · rw [e]; exact fun q => hDx (t, tabObj #[]) (by simp [hm]) q.symm
    · rw [e]; exact fun q => hDn (t, tabObj #[]) (by simp [hm]) q.symm
    · rw [e]; exact fun q => hls (t, tabObj #[]) (by simp [hm]) q.symm
    · rw [e]; exact news_ne N2 (oa := listOf ws.toArray n2) (ob := tabObj #[]) (by simp) (by simp [hm]) (fun q => by cases q)
    · rw [e]; exact news_ne N2 (oa := oA) (ob := tabObj #[]) (by simp) (by simp [hm]) (fun q => by rw [q] at dA; cases dA)
    · rw [e]; exact news_ne N2 (oa := oB) (ob := tabObj #[]) (by simp) (by simp [hm]) (fun q => by rw [q] at dB; cases dB)
    · rw [e]; exact news_ne N2 (oa := oc) (ob := tabObj #[]) (by simp) (by simp [hm]) (fun q => by rw [q] at doc; cases doc)
    · rw [e]; exact news_ne N2 (oa := LCg.lst tys) (ob := tabObj #[]) (by simp) (by simp [hm]) (fun q => by cases q)
    · have h9 := (List.mem_filter.mp e).2
      simp at h9
      rcases ht with rfl | rfl
      · exact h9.1
      · exact h9.2
  obtain ⟨k, v, nb, px, kus, P, hres⟩ := pure
  refine parts_w (x := q2) (Dx := Dx) (y := S z) (z := z) (t := t2) (b := b) (oT := tabObj #[]) (oT3 := tabObj #[]) (news := (D, od) :: LedA st o sc ws n2 L oA oB oc ((Tx, LCg.lst tys) :: ls.filter fun p => p.1 != 216 && p.1 != 354)) B F2 X ?hN9 ?hn354 ?hn216 T X T (fun b hb => nomatch hb) G ⟨#[], rfl, trivial⟩ ⟨#[], rfl, trivial⟩ rfl (by rw [S_len]; omega) (by decide) (by decide)
    P.hk0 P.hkv P.hvz P.hkv1 P.hnm P.hnml P.h92 P.hrl9 P.hpx P.hpxl P.HN P.HK P.HBad P.hnd P.hul P.hnd2 P.hkl2 P.hxl2 P.hns P.hvs ?hErr ?_
  case hN9 =>
    intro p hp
    refine N2 p ?_
    simp only [List.mem_cons] at hp ⊢
    rcases hp with e | e | e | e | e | e | e | e | e | e | e | e
    · simp [e]
    · simp [e]
    · simp [e, hll.2.1]
    · simp [e, hll.2.2]
    · simp [e]
    · simp [e]
    · simp [e]
    · simp [e]
    · simp [e]
    · simp [e]
    · simp [e]
    · simp [(List.mem_filter.mp e).1]
  case hn354 =>
    intro p hp
    rcases List.mem_cons.mp hp with e | e
    · exact hT9 354 (.inr rfl) hll.2.2 p (by simp [e])
    · rcases List.mem_cons.mp e with e | e
      · exact hT9 354 (.inr rfl) hll.2.2 p (by simp [e])
      · rcases List.mem_cons.mp e with e | e
        · rw [e]; decide
        · exact hT9 354 (.inr rfl) hll.2.2 p (.tail _ (.tail _ e))
  case hn216 =>
    intro p hp
    rcases List.mem_cons.mp hp with e | e
    · exact hT9 216 (.inl rfl) hll.2.1 p (by simp [e])
    · rcases List.mem_cons.mp e with e | e
      · exact hT9 216 (.inl rfl) hll.2.1 p (by simp [e])
      · rcases List.mem_cons.mp e with e | e
        · rw [e]; decide
        · exact hT9 216 (.inl rfl) hll.2.1 p (.tail _ (.tail _ e))
  case hErr =>
    intro why g9 e9 t9 cx9 vs9 h9 tk9 gs9 oT8 oT9 hU8 hU9 F9 R9 U9 G9
    obtain ⟨hbt, hlt⟩ : b = true ∧ bl < 1 + 2 * (ps.length : Int) := by
      rcases hres with ⟨r1, r2, _⟩ | ⟨_, r⟩
      · rcases why with h | h
        · rw [r1] at h; cases h
        · omega
      · exact r
    refine caught_X R9 F9 B U9 X T (fun b hb => nomatch hb) rfl rfl rfl rfl rfl rfl (by k_is) ?_
    intro h10 g10 tk10 T10 F10 N10 B10 X10 P10
    clear N2 F2 F9 R9 U9 P hres
    subst hbt
    obtain ⟨q8, rfl, _⟩ := hU8
    obtain ⟨q9, rfl, _⟩ := hU9
    k_steps
    dsimp only
    rw [decide_eq_true hlt]
    have F11 : Fr h₀ L h10 _ := ⟨F10.ns, fun b' o' e' => F10.keep b' o' (T10.other b' o' e' (fun hb => nomatch hb)), F.above⟩
    exact (hret h10 _ gs9 _ q8 q9 F11 G9 (N10 _ (.head _)).1 (N10 _ (.tail _ (.head _))).1).out
  intro hnb hkq T3 DP Dd h3 tk3 gs3 es3 ep3 ls3 kvs3 oT9 oT39 tn3 tv3 G3 hT3 hT39 F3 N3 hDP he3 hv3
  obtain ⟨hnl, hnt, hut, hdt⟩ : ¬ (b = true ∧ bl < 1 + 2 * (ps.length : Int)) ∧ nameT b z k = S nm ∧ ub (z.drop (v + 1)) = tx ∧ (kus.map fun p => (Txt.upper (unT (Txt.upper p.1)), unUV p.2)) = ps.map (dueP b) := by
    rcases hres with ⟨_, _, r3, r4, r5, r6⟩ | ⟨h, _⟩
    · exact ⟨r3, r4, r5, r6⟩
    · rcases h with h | h
      · rw [hnb] at h; cases h
      · omega
  rw [hnt, hut] at N3
  rw [hdt] at hv3
  clear hres P hT9
  have hcA : ((L + 1 + 1 + 1, oA) : Addr × Obj) ∈ (T3, ({ cls := .type "tuple", data := .seq #[.str (S nm) tn3, .ref DP, .str (S tx) tv3] } : Obj)) :: (DP, DS.pob 282 Dd es3 ep3) :: (Dd, dict0) :: (ls3 ++ (354, oT39) :: (216, oT9) :: (q2, clob Dx (S z) t2 #[some (.bool b)]) :: (Dx, dict0) :: (D, od) :: LedA st o sc ws n2 L oA oB oc ((Tx, LCg.lst tys) :: ls.filter fun p => p.1 != 216 && p.1 != 354)) := by simp
  have N4 : News h₀ L h3 ((T3, { cls := .type "tuple", data := .seq #[.str (S nm) tn3, .ref DP, .str (S tx) tv3] }) :: (DP, DS.pob 282 Dd es3 ep3) :: (Dd, dict0) :: (D, od) :: LedA st o sc ws n2 L oA oB oc ((Tx, LCg.lst tys) :: (ls3.filter (fun p => p.1 != L + 1 + 1 + 1) ++ ((ls.filter fun p => p.1 != 216 && p.1 != 354) ++ [(354, oT39), (216, oT9)])))) := by
    intro p hp
    refine N3 p ?_
    simp only [List.mem_cons, List.mem_append, List.not_mem_nil, or_false] at hp ⊢
    rcases hp with e | e | e | e | e | e | e | e | e | e | e | e | e | e
    all_goals first
      | (simp [e]; done)
      | (simp [(List.mem_filter.mp e).1])
  have hv4 : UVals (ls3.filter (fun p => p.1 != L + 1 + 1 + 1) ++ ((ls.filter fun p => p.1 != 216 && p.1 != 354) ++ [(354, oT39), (216, oT9)])) (ps.map (dueP b)) kvs3 := by
    refine (hv3.filter (p := fun p => p.1 != L + 1 + 1 + 1) fun q hq ⟨ys, n, e⟩ => ?_).mono fun p hp => List.mem_append.mpr (.inl hp)
    simp only [bne_iff_ne]
    exact cell_ne N3 hcA dA (by simp [hq]) (fun v' q' => by rw [e] at q'; cases q')
  have huv4 : UVals (ls3.filter (fun p => p.1 != L + 1 + 1 + 1) ++ ((ls.filter fun p => p.1 != 216 && p.1 != 354) ++ [(354, oT39), (216, oT9)])) (ps.map (dueP b)) kvs := by
    refine (huv.filter (p := fun p => p.1 != 216 && p.1 != 354) fun q hq ⟨ys, n, e⟩ => ?_).mono fun p hp => List.mem_append.mpr (.inr (List.mem_append.mpr (.inl hp)))
    simp only [Bool.and_eq_true, bne_iff_ne]
    exact ⟨news_ne N2 (oa := listOf ys n) (ob := tabObj #[]) (by rw [← e]; simp [hq]) (by simp [hll.2.1]) (fun q => by cases q), news_ne N2 (oa := listOf ys n) (ob := tabObj #[]) (by rw [← e]; simp [hq]) (by simp [hll.2.2]) (fun q => by cases q)⟩
  have hcl4 : ∀ p ∈ ls3.filter (fun p => p.1 != L + 1 + 1 + 1) ++ ((ls.filter fun p => p.1 != 216 && p.1 != 354) ++ [(354, oT39), (216, oT9)]), p.1 ≠ L + 1 + 1 + 1 := by
    intro p hp
    simp only [List.mem_append, List.mem_cons, List.not_mem_nil, or_false] at hp
    rcases hp with e | e | e | e
    · have := (List.mem_filter.mp e).2
      simpa using this
    · exact cell_ne N3 hcA dA (by simp [(List.mem_filter.mp e).1, e]) (hll.noCell (List.mem_filter.mp e).1)
    · obtain ⟨q9, rfl, _⟩ := hT39
      exact cell_ne N3 hcA dA (by simp [e]) (fun v' q' => by rw [e] at q'; cases q')
    · obtain ⟨q9, rfl, _⟩ := hT3
      exact cell_ne N3 hcA dA (by simp [e]) (fun v' q' => by rw [e] at q'; cases q')
  clear N2 F2
  have h216 : ((216, oT9) : Addr × Obj) ∈ ls3.filter (fun p => p.1 != L + 1 + 1 + 1) ++ ((ls.filter fun p => p.1 != 216 && p.1 != 354) ++ [(354, oT39), (216, oT9)]) := by simp
  have h354 : ((354, oT39) : Addr × Obj) ∈ ls3.filter (fun p => p.1 != L + 1 + 1 + 1) ++ ((ls.filter fun p => p.1 != 216 && p.1 != 354) ++ [(354, oT39), (216, oT9)]) := by simp
  generalize hls4 : (ls3.filter (fun p => p.1 != L + 1 + 1 + 1) ++ ((ls.filter fun p => p.1 != 216 && p.1 != 354) ++ [(354, oT39), (216, oT9)])) = ls4 at N4 hv4 huv4 hcl4 h216 h354
  clear N3
  dsimp only
  k_steps
  rename_i h5 h6 F6 N6
  have hcA6 : ((L + 1 + 1 + 1, oA) : Addr × Obj) ∈ (T3, ({ cls := .type "tuple", data := .seq #[.str (S nm) tn3, .ref DP, .str (S tx) tv3] } : Obj)) :: (DP, DS.pob 282 Dd es3 ep3) :: (Dd, dict0) :: (D, od) :: LedA st o sc ws n2 L oA oB oc ((Tx, LCg.lst tys) :: ls4) := by simp
  refine storeX_C (c := L + 1 + 1 + 1) (g := fun x => (T3, { cls := .type "tuple", data := .seq #[.str (S nm) tn3, .ref DP, .str (S tx) tv3] }) :: (DP, DS.pob 282 Dd es3 ep3) :: (Dd, dict0) :: (D, od) :: LedA st o sc ws n2 L x oB oc ((Tx, LCg.lst tys) :: ls4)) F6 N6 rfl
    (updF_of (pre := [(T3, { cls := .type "tuple", data := .seq #[.str (S nm) tn3, .ref DP, .str (S tx) tv3] }), (DP, DS.pob 282 Dd es3 ep3), (Dd, dict0), (D, od), (st, o), (sc, listOf ws.toArray n2)]) (fun _ => rfl) ?hpreA ?hpostA) dA ?_ rfl rfl
  case hpreA =>
    intro p hp
    simp only [List.mem_cons, List.not_mem_nil, or_false] at hp
    rcases hp with e | e | e | e | e | e
    · exact cell_ne N6 hcA6 dA (by simp [e]) (fun v' q => by rw [e] at q; cases q)
    · exact cell_ne N6 hcA6 dA (by simp [e]) (fun v' q => by rw [e] at q; cases q)
    · exact cell_ne N6 hcA6 dA (by simp [e]) (fun v' q => by rw [e] at q; cases q)
    · rw [e]; exact fun q => hDn (L + 1 + 1 + 1, oA) (by simp) q.symm
    · rw [e]; exact fun q => hst (L + 1 + 1 + 1, oA) (by simp) q.symm
    · exact cell_ne N6 hcA6 dA (by simp [e]) (fun v' q => by rw [e] at q; cases q)
  case hpostA =>
    intro p hp
    simp only [List.mem_cons] at hp
    rcases hp with e | e | e | e
    · rw [e]; exact (Nat.succ_ne_self (L + 1 + 1)).symm
    · rw [e]; exact Nat.ne_of_lt (Nat.lt_succ_of_lt (Nat.lt_succ_self _))
    · exact cell_ne N6 hcA6 dA (by simp [e]) (fun v' q => by rw [e] at q; cases q)
    · exact hcl4 p e
  intro h7 oA7 F7 N7 dA7
  clear F6 N6
  have hstop : IfStop := .mk
  dsimp only
  k_steps
  rename_i h8 F8 N8 hs8
  refine TEnd.mk ?_
  refine wpAny_mono (Q := fun fl s' => TEnd (fl = .next ∧ ∃ tk', s' = { s with heap := h8, toks := tk', gens := gs3 })) ?_ ?_ (fun _ _ e => e)
  · clear hstop hs8
    clear hv4 huv4 hcl4
    k_steps
    · exact absurd ⟨by assumption, by assumption⟩ hnl
    · exact ⟨⟨rfl, _, rfl⟩⟩
    · exact ⟨⟨rfl, _, rfl⟩⟩
  rintro fl s9 ⟨⟨rfl, tk9, rfl⟩⟩
  clear hstop hs8
  dsimp only
  k_steps
  · refine TEnd.mk ?_
    have hsz : es3.size = kvs3.length := by rw [← he3.len, Array.length_toList]
    have hnd3 : (kvs3.map (·.1)).Nodup := by
      obtain ⟨_, _, _, _, _, _, h9⟩ := hod
      rw [huv4.keys] at h9
      rw [hv4.keys]
      exact h9
    have hkU : ∀ (i : Nat) (k : Str) (v : Value), kvs3[i]? = some (k, v) → kvs3.lookup (Txt.upper k) = some v ∧ k.length ≤ 1000 ∧ True := by
      intro i k v hi
      obtain ⟨u, hu, _⟩ := uvals_kv hv4 hi
      rw [List.getElem?_map] at hu
      cases hp : ps[i]? with
      | none => rw [hp] at hu; cases hu
      | some p =>
        rw [hp] at hu
        have hk : Txt.upper (S p.key) = k := congrArg Prod.fst (Option.some.inj hu)
        have hkey := (p7.good i p hp).key
        have h2 : Txt.upper k = k ∧ k.length ≤ 1000 := by
          rw [← hk]
          show Txt.upper (Txt.upper (S p.key)) = _ ∧ _
          rw [hkey]
          unfold keyAt
          by_cases h0 : i = 0
          · rw [if_pos h0]; decide +kernel
          · rw [if_neg h0]; decide +kernel
        exact ⟨by rw [h2.1]; exact lookup_nd hnd3 hi, h2.2, trivial⟩
    have hokU : ∀ p ∈ ps.map (dueP b), UVok p.2 := by
      intro q hq
      obtain ⟨p, hp, rfl⟩ := List.mem_map.mp hq
      obtain ⟨i, hi⟩ := List.mem_iff_getElem?.mp hp
      exact dueP_ok (p7.good i p hi)
    refine dictComp_F (h₀ := h₀) (L := L) (m := fun y => if y = Str.ofString "value" then some (Value.str (S tx) tv3) else if y = Str.ofString "told" then some (Value.str (S nm) tn3) else m y) (strKind _ w) (n := es3.size) (by with_unfolding_all rfl) (by decide) (by rfl) (by decide) (by rfl) (fun i k y => kvs3[i]? = some (k, y)) ((T3, { cls := .type "tuple", data := .seq #[.str (S nm) tn3, .ref DP, .str (S tx) tv3] }) :: (DP, DS.pob 282 Dd es3 ep3) :: (Dd, dict0) :: (D, od) :: LedA st o sc ws n2 L oA7 oB oc ((Tx, LCg.lst tys) :: ls4)) (by
      have := uvals_len hv4
      rw [hsz, PySem.sizeLine_eq, this, List.length_map]
      have := p7.psl
      omega) ?_ (fun _ => rfl)
    k_steps
    refine TEnd.mk ?_
    refine pob_getm (Dd := Dd) (ox := DS.pob 282 Dd es3 ep3) (X.keeps F8.keep) ⟨(N8 _ (.tail _ (.head _))).1, rfl, rfl, (N8 (Dd, dict0) (by simp)).1⟩ rfl (N8 (Dd, dict0) (by simp)).1 (by k_is) (by k_is) (by k_is) ty_keys ?_
    k_steps
    refine TEnd.mk ?_
    refine up9 rfl (Nat.le_of_ble_eq_true rfl) (Nat.le_of_ble_eq_true rfl) (wpAny_mono (x_pkeys (X.keeps F8.keep) (N8 _ (.tail _ (.head _))).1) (fun v s' hv => ?_) fun _ _ z => z)
    obtain ⟨q1, o21, h21, tk21, rfl, rfl, k21, hq20, hq21, rfl⟩ := hv
    dsimp only
    k_steps
    refine TEnd.mk ?_
    refine keys_iter hq21 rfl rfl (k21 _ _ (N8 _ (.tail _ (.head _))).1) rfl ?_
    have F21 := F8.keeps k21
    have N21 := N8.grown k21
    clear F8 N8
    have hDP1 : DP < h21.objs.size := Heap.lt_size (N21 _ (.tail _ (.head _))).1
    have hI0 : h₀.get? h21.objs.size = none := by
      cases hc : h₀.get? h21.objs.size with
      | none => rfl
      | some o => exact absurd (Heap.lt_size (F21.keep _ _ hc)) (Nat.lt_irrefl _)
    refine ⟨h21.objs.size, [h21.objs.size, DP], _, _, rfl, keysP rfl _ DP (Nat.ne_of_lt hDP1) (DS.pob 282 Dd es3 ep3) es3 ep3 rfl, fun i h st => let ⟨_, o, ho, _⟩ := st; ⟨o, ho⟩, ?hfp, ⟨Heap.get?_push_of_some _ (N21 _ (.tail _ (.head _))).1, _, Heap.get?_push_size _ rfl, rfl, rfl⟩, F21.push _, N21.pushKeep _, (fun p hp => Nat.ne_of_lt (Heap.lt_size (N21 p hp).1)), Nat.ne_of_gt F21.ns.lt, hI0, ?turnD, ?doneD⟩
    case hfp =>
      intro b hb
      rcases List.mem_cons.mp hb with e | e
      · exact .inl e
      · rw [List.mem_singleton.mp e]; exact .inr ⟨_, .tail _ (.head _)⟩
    case turnD =>
      rintro i v C oC D5 oD5 h tk m₂ oI E' hi ⟨e, he, rfl⟩ hC hx F9 N9
      obtain ⟨ky, ty, yv, e1, e2, e3⟩ := he3.get (Array.getElem?_toList ▸ he)
      rw [e2] at hx
      obtain ⟨hku, hkl, hkz⟩ := hkU i ky yv e1
      clear F21 N21
      k_steps
      refine TEnd.mk ?_
      refine sub_K (x := DP) (C := 282) (od := some dict0) (ox := DS.pob 282 Dd es3 ep3) (f := 70) (by assumption) X ⟨(N9 (DP, DS.pob 282 Dd es3 ep3) (by simp)).1, rfl, rfl, (N9 (Dd, dict0) (by simp)).1⟩ (by k_is) (by k_is) (by k_is) ?_
      refine getitem_w (Dd := Dd) (oDd := dict0) (D := DP) (es := es3) (ep := ep3) F9 X N9 T ?hdg (by simp) (by simp) he3 hku hkl ?_
      case hdg => exact Nat.le_of_ble_eq_true rfl
      intro h12 tk12 F12 N12
      exact ⟨⟨ky, h12, tk12, beq_self_eq_true ky, e1, rfl, F12, N12⟩⟩
    case doneD =>
      intro D5 h5 tk5 kvs5 h0 hL5 hn5 hd5 hr5 F9 N9
      refine TEnd.mk ?_
      have hk5 : kvs5 = kvs3 := by
        have := (runAll_take hnd3 hr5).2
        rw [this, hsz, List.take_length]
      rw [hk5] at hd5
      have hns5 := sysM_ne T h0
      clear F21 N21
      k_steps
      refine TEnd.mk ?_
      refine uv_eq hns5 hDs hd5 (Heap.dictOf_iff.mpr ⟨od, (N9 (D, od) (by simp)).1, hod⟩) hv4 huv4 ?hN5 hokU ?hu5 ?_
      case hN5 =>
        intro p hp
        have hm : p ∈ (T3, ({ cls := .type "tuple", data := .seq #[.str (S nm) tn3, .ref DP, .str (S tx) tv3] } : Obj)) :: (DP, DS.pob 282 Dd es3 ep3) :: (Dd, dict0) :: (D, od) :: LedA st o sc ws n2 L oA7 oB oc ((Tx, LCg.lst tys) :: ls4) := by simp [hp]
        exact (N9 p hm).1
      case hu5 => exact Nat.le_of_ble_eq_true rfl
      k_steps
      refine TEnd.mk ?_
      refine join_listW (items := tys.toArray) ⟨_, (N9 (Tx, LCg.lst tys) (by simp)).1, rfl, _, rfl⟩ hty0.out (by decide +kernel) (by rw [sum_ones, List.length_map]; have := p7.txl; omega) ?_
      intro t9 k9
      rw [show Txt.join (Str.ofString "") (tx.map fun c => S [c]) = S tx from join_ones tx]
      dsimp only
      k_steps
      rw [show (S tx == S tx) = true from beq_self_eq_true _]
      obtain ⟨q8, rfl, _⟩ := hT3
      obtain ⟨q9, rfl, _⟩ := hT39
      have hm1 : (216, tabObj q8) ∈ (T3, ({ cls := .type "tuple", data := .seq #[.str (S nm) tn3, .ref DP, .str (S tx) tv3] } : Obj)) :: (DP, DS.pob 282 Dd es3 ep3) :: (Dd, dict0) :: (D, od) :: LedA st o sc ws n2 L oA7 oB oc ((Tx, LCg.lst tys) :: ls4) := by simp [h216]
      have hm2 : (354, tabObj q9) ∈ (T3, ({ cls := .type "tuple", data := .seq #[.str (S nm) tn3, .ref DP, .str (S tx) tv3] } : Obj)) :: (DP, DS.pob 282 Dd es3 ep3) :: (Dd, dict0) :: (D, od) :: LedA st o sc ws n2 L oA7 oB oc ((Tx, LCg.lst tys) :: ls4) := by simp [h354]
      exact (hret h5 k9 gs3 _ q8 q9 F9 G3 (N9 _ hm1).1 (N9 _ hm2).1).out
  · exact absurd (by assumption : (S nm == S nm) = false) (by simp)
end LawE
end Mine
end
/-! part LawW -/
section
theorem Mine.startLawW : True := by
  w_top off
  exact trivial
open PySem PySem.W PyProof.Rows PySem.Calls PySem.Spec
set_option Elab.async false
set_option maxRecDepth 100000
namespace Mine
section
variable {w : World} {mean : ExcName → Option Value} {mg mb : Str → Option Value} {h₀ : Heap} {L f : Addr} {cd : Value} {s : Shared}
    {Q : Flow → Shared → Prop} {E : Value → Shared → Prop}
theorem law_w {scr : Addr} {vs : List Value} {ns : List Int} {oA oB oC : Obj}
    (B : Below callerA h₀ [] h₀) (X : (K0 w.params).In h₀) (T : Top hd.view_39 loos mean mg mb h₀)
    (F : Fr h₀ L s.heap (fun y => if y = Str.ofString "script" then some (.ref scr) else none)) (N : News h₀ L s.heap [(L + 1 + 1 + 1, oA), (L + 1 + 1, oB), (L + 1, oC), (216, tabObj #[]), (354, tabObj #[])]) (dA : oA.data = .cell none) (dB : oB.data = .cell none) (dC : oC.data = .cell none)
    (hg : s.gens = #[]) (hL : h₀.IsList scr vs.toArray) (hI : IntsAre vs ns) (hlay : (PyData.list (List.map PyData.int ns)).layable0 = true) (hc : ¬ ((63 : Nat) : Int) < ((ns.length : Nat) : Int)) (hT2 : (216 : Addr) < L ∧ (354 : Addr) < L)
    (pure : ∀ b nm bl sg ps tx z m nw, P7 w L oA b nm bl sg ps tx z m nw → PureOk b nm bl ps tx z)
    (hret : ∀ h' tk gs m' p1 p2, Fr h₀ L h' m' → AllBare gs → h'.get? 216 = some (tabObj p1) → h'.get? 354 = some (tabObj p2) → TEnd (Q (.ret (.bool true)) { s with heap := h', toks := tk, gens := gs })) :
    LawAt w 0 L f cd Q E s := by
  have G : AllBare s.gens := by rw [hg]; intro g h; simp at h
  refine law_a B X T F N dA dB dC hg hL hI hlay hc hT2 fun b nm bl sg h1 tk1 m1 nw1 F1 N1 p1 => ?_
  refine law_b (s := { s with heap := h1, toks := tk1 }) B X T F1 N1 p1 fun ps h2 tk2 m2 nw2 hps F2 N2 p2 => ?_
  refine law_c (s := { s with heap := h2, toks := tk2 }) dA dB B X T F2 N2 p2 hps fun tx z h3 tk3 m3 nw3 F3 N3 p3 => ?_
  refine law_d (s := { s with heap := h3, toks := tk3 }) dA B X T F3 N3 p3 fun y ty h4 tk4 m4 nw4 hf hy ho F4 N4 p4 => ?_
  exact law_e (s := { s with heap := h4, toks := tk4 }) dA B X T F4 N4 p4 hf hy ho (pure _ _ _ _ _ _ _ _ _ p4) G hret
end
end Mine
end
/-! part Pl2 -/
section
theorem Mine.startPl2 : True := by
  w_top off
  exact trivial
open PySem PySem.W PyProof.Rows PySem.Calls PySem.Spec
set_option Elab.async false
namespace Mine
/-! what is split where a sign stands outside of quotes -/
def bal (sep : Nat) : List Nat → Bool → Prop
  | [], q => q = false
  | c :: r, q => ¬ ((if c = 34 then !q else q) = false ∧ c = sep) ∧ bal sep r (if c = 34 then !q else q)
theorem bal.app {sep : Nat} {r : List Nat} (h2 : bal sep r false) : ∀ {l : List Nat} {q : Bool}, bal sep l q → bal sep (l ++ r) q
  | [], q, h => by cases (show q = false from h); exact h2
  | _ :: _, _, h => ⟨h.1, bal.app h2 h.2⟩
theorem bal.plain {sep : Nat} : ∀ {l : List Nat}, (∀ c ∈ l, c ≠ 34 ∧ c ≠ sep) → bal sep l false
  | [], _ => rfl
  | c :: r, h => by
    have h1 := h c (.head _)
    refine ⟨fun e => h1.2 e.2, ?_⟩
    rw [if_neg h1.1]
    exact bal.plain fun d hd => h d (.tail _ hd)
theorem bal.inq {sep : Nat} (hs : sep ≠ 34) : ∀ {l : List Nat}, (∀ c ∈ l, c ≠ 34) → bal sep (l ++ [34]) true
  | [], _ => ⟨fun e => hs e.2.symm, rfl⟩
  | c :: r, h => by
    have h1 := h c (.head _)
    refine ⟨fun e => ?_, ?_⟩
    · rw [if_neg h1] at e; exact absurd e.1 (by decide)
    · rw [if_neg h1]
      exact bal.inq hs fun d hd => h d (.tail _ hd)
theorem bal.quoted {sep : Nat} (hs : sep ≠ 34) {l : List Nat} (h : ∀ c ∈ l, c ≠ 34) : bal sep (34 :: (l ++ [34])) false :=
  ⟨fun e => hs e.2.symm, bal.inq hs h⟩
theorem qs_bal {sep : Nat} {mx : Int} {rest : List Nat} (hr : rest ≠ []) : ∀ {l : List Nat} {q : Bool} {cur : List Nat} {res : List (List Nat)} {k : Int}, bal sep l q → k ≠ mx → qs sep mx (l ++ rest) q cur res k = qs sep mx rest false (cur ++ l) res k
  | [], q, cur, res, k, h, _ => by cases (show q = false from h); simp
  | c :: r, q, cur, res, k, h, hk => by
    obtain ⟨h1, h2⟩ := h
    have hh : (!(if c = 34 then !q else q) && c == sep) = false := by
      cases hq : (if c = 34 then !q else q) with
      | true => rfl
      | false =>
        rw [hq] at h1
        have : c ≠ sep := fun e => h1 ⟨rfl, e⟩
        simp [this]
    rw [List.cons_append, qs]
    simp only [hh, Bool.false_eq_true, if_false]
    rw [if_neg (by simp [hr]), if_neg hk, qs_bal hr h2 hk]
    simp
theorem qs_end {sep : Nat} {mx : Int} : ∀ {l : List Nat} {q : Bool} {cur : List Nat} {res : List (List Nat)} {k : Int}, bal sep l q → l ≠ [] → k ≠ mx → qs sep mx l q cur res k = res ++ [cur ++ l]
  | c :: r, q, cur, res, k, h, _, hk => by
    obtain ⟨h1, h2⟩ := h
    have hh : (!(if c = 34 then !q else q) && c == sep) = false := by
      cases hq : (if c = 34 then !q else q) with
      | true => rfl
      | false =>
        rw [hq] at h1
        have : c ≠ sep := fun e => h1 ⟨rfl, e⟩
        simp [this]
    rw [qs]
    simp only [hh, Bool.false_eq_true, if_false]
    by_cases hr : r = []
    · rw [if_pos hr, hr]
    · rw [if_neg hr, if_neg hk, qs_end h2 hr hk]
      simp
def joinS (sep : Nat) : List (List Nat) → List Nat
  | [] => []
  | [x] => x
  | x :: y :: r => x ++ sep :: joinS sep (y :: r)
theorem qs_join {sep : Nat} (hs : sep ≠ 34) : ∀ {ps : List (List Nat)} {res : List (List Nat)} {k : Int}, (∀ p ∈ ps, bal sep p false) → joinS sep ps ≠ [] → 0 ≤ k → qs sep (-1) (joinS sep ps) false [] res k = res ++ ps
  | [], _, _, _, h, _ => absurd rfl h
  | [p], res, k, hb, hn, hk => by
    rw [show joinS sep [p] = p from rfl] at hn ⊢
    rw [qs_end (hb p (.head _)) hn (by omega), List.nil_append]
  | p :: p2 :: r, res, k, hb, hn, hk => by
    rw [show joinS sep (p :: p2 :: r) = p ++ sep :: joinS sep (p2 :: r) from rfl, qs_bal (by simp) (hb p (.head _)) (by omega), List.nil_append, qs]
    simp only [if_neg hs, Bool.not_false, beq_self_eq_true, Bool.and_self, if_true]
    by_cases he : joinS sep (p2 :: r) = []
    · rw [if_pos he]
      have : p2 = [] ∧ r = [] := by
        cases r with
        | nil => exact ⟨he, rfl⟩
        | cons a b => exact absurd he (by simp [joinS])
      rw [this.1, this.2]; simp
    · rw [if_neg he, if_neg (by omega), qs_join hs (fun q hq => hb q (.tail _ hq)) he (by omega)]
      simp
theorem qs_one {sep : Nat} (hs : sep ≠ 34) {key val : List Nat} (hb : bal sep key false) : qs sep 1 (key ++ sep :: val) false [] [] 0 = [key, val] := by
  rw [qs_bal (by simp) hb (by omega), List.nil_append, qs]
  simp only [if_neg hs, Bool.not_false, beq_self_eq_true, Bool.and_self, if_true]
  by_cases he : val = []
  · rw [if_pos he, he]; simp
  · rw [if_neg he]; simp
end Mine
end
/-! part Pl6 -/
section
theorem Mine.startPl6 : True := by
  w_top off
  exact trivial
open PySem PySem.W PyProof.Rows PySem.Calls PySem.Spec
set_option Elab.async false
namespace Mine
/-! the strip over a run of parameters -/
theorem sst_plain : ∀ {l o : List Nat} {la : Bool}, (∀ c ∈ l, c ≠ 34 ∧ ows c = false ∧ c ≠ 59 ∧ c ≠ 61) → ∃ la', List.foldl sstep ⟨o, [], false, la⟩ l = ⟨o ++ l, [], false, la'⟩
  | [], o, la, _ => ⟨la, by simp⟩
  | c :: r, o, la, h => by
    obtain ⟨h1, h2, h3, h4⟩ := h c (.head _)
    have e : sstep ⟨o, [], false, la⟩ c = ⟨o ++ [c], [], false, false⟩ := by
      unfold sstep
      rw [if_neg h1, if_neg (by simp [h2]), if_neg (by simp [h3, h4])]
      simp [flushP]
    obtain ⟨la', h9⟩ := sst_plain (l := r) (o := o ++ [c]) (la := false) fun d hd => h d (.tail _ hd)
    exact ⟨la', by rw [List.foldl_cons, e, h9]; simp⟩
theorem sst_inq : ∀ {l o : List Nat} {la : Bool}, (∀ c ∈ l, c ≠ 34) → List.foldl sstep ⟨o, [], true, la⟩ (l ++ [34]) = ⟨o ++ (l ++ [34]), [], false, false⟩
  | [], o, la, _ => by
    rw [List.nil_append, List.foldl_cons, List.foldl_nil]
    simp [sstep, flushP]
  | c :: r, o, la, h => by
    have h1 := h c (.head _)
    have e : sstep ⟨o, [], true, la⟩ c = ⟨o ++ [c], [], true, false⟩ := by
      unfold sstep
      rw [if_neg h1, if_neg (by simp), if_neg (by simp)]
      simp [flushP]
    rw [List.cons_append, List.foldl_cons, e, sst_inq fun d hd => h d (.tail _ hd)]
    simp
theorem sst_quoted {l o : List Nat} {la : Bool} (h : ∀ c ∈ l, c ≠ 34) : List.foldl sstep ⟨o, [], false, la⟩ (34 :: (l ++ [34])) = ⟨o ++ 34 :: (l ++ [34]), [], false, false⟩ := by
  have e : sstep ⟨o, [], false, la⟩ 34 = ⟨o ++ [34], [], true, false⟩ := by
    simp [sstep, flushP]
  rw [List.foldl_cons, e, sst_inq h]
  simp
/-- a piece that the strip leaves as it is -/
def Kept (l : List Nat) : Prop := ∀ o la, ∃ la', List.foldl sstep ⟨o, [], false, la⟩ l = ⟨o ++ l, [], false, la'⟩
theorem Kept.app {a b : List Nat} (h1 : Kept a) (h2 : Kept b) : Kept (a ++ b) := fun o la => by
  obtain ⟨l1, e1⟩ := h1 o la
  obtain ⟨l2, e2⟩ := h2 (o ++ a) l1
  exact ⟨l2, by rw [List.foldl_append, e1, e2, List.append_assoc]⟩
theorem Kept.nil : Kept [] := fun o la => ⟨la, by simp⟩
theorem Kept.plain {l : List Nat} (h : ∀ c ∈ l, c ≠ 34 ∧ ows c = false ∧ c ≠ 59 ∧ c ≠ 61) : Kept l := fun _ _ => sst_plain h
theorem Kept.quoted {l : List Nat} (h : ∀ c ∈ l, c ≠ 34) : Kept (34 :: (l ++ [34])) := fun _ _ => ⟨_, sst_quoted h⟩
theorem Kept.join : ∀ {l : List (List Nat)}, (∀ x ∈ l, Kept x) → Kept (joinS 44 l)
  | [], _ => .nil
  | [x], h => h x (.head _)
  | x :: y :: r, h => (h x (.head _)).app (Kept.app (a := [44]) (.plain (by decide)) (Kept.join fun z hz => h z (.tail _ hz)))
theorem trimR_no {l : List Nat} (h : ∀ c ∈ l, ows c = false) (hn : l ≠ []) (o : List Nat) : trimR (o ++ l) = o ++ l := by
  rcases List.eq_nil_or_concat l with e | ⟨r, z, e⟩
  · exact absurd e hn
  · subst e
    rw [List.concat_eq_append, ← List.append_assoc, trimR_snoc, if_neg]
    rw [h z (by simp)]
    decide
/-- a parameter with its blanks, and without -/
def bodyB (sg : Nat) (b1 b2 : Bool) (key val : List Nat) : List Nat := (if b1 then [sg] else []) ++ (key ++ ((if b2 then [sg] else []) ++ 61 :: val))
structure KeyVal (sg : Nat) (key val : List Nat) : Prop where
  hsg : ows sg = true
  hkey : ∀ c ∈ key, c ≠ 34 ∧ ows c = false ∧ c ≠ 59 ∧ c ≠ 61
  hkeyn : key ≠ []
  hkept : Kept val
  hval : ∀ c ∈ val, ows c = false
theorem sst_tail {sg : Nat} {b2 : Bool} {key val : List Nat} (h : KeyVal sg key val) (o : List Nat) (la : Bool) : ∃ la', List.foldl sstep ⟨o ++ key, [], false, la⟩ ((if b2 then [sg] else []) ++ 61 :: val) = ⟨o ++ (key ++ 61 :: val), [], false, la'⟩ := by
  have ht : trimR (o ++ key) = o ++ key := trimR_no (fun c hc => (h.hkey c hc).2.1) h.hkeyn o
  have hk : ∃ la1 , List.foldl sstep ⟨o ++ key, [], false, la⟩ ((if b2 then [sg] else []) ++ [61]) = ⟨o ++ key ++ [61], [], false, la1⟩ := by
    have hsg : sg ≠ 34 := fun e => by have := h.hsg; rw [e] at this; cases this
    cases b2
    · refine ⟨true, ?_⟩
      show sstep ⟨o ++ key, [], false, la⟩ 61 = _
      have : ows 61 = false := by decide
      simp [sstep, this, ht]
    · refine ⟨true, ?_⟩
      show sstep (sstep ⟨o ++ key, [], false, la⟩ sg) 61 = _
      have h2 : sstep ⟨o ++ key, [], false, la⟩ sg = ⟨o ++ key, [sg], false, la⟩ := by simp [sstep, hsg, h.hsg]
      have : ows 61 = false := by decide
      rw [h2]
      simp [sstep, this, ht]
  obtain ⟨la1, e1⟩ := hk
  obtain ⟨la2, e2⟩ := h.hkept (o ++ key ++ [61]) la1
  refine ⟨la2, ?_⟩
  rw [show ((if b2 then [sg] else []) ++ 61 :: val : List Nat) = ((if b2 then [sg] else []) ++ [61]) ++ val from by simp, List.foldl_append, e1, e2]
  simp
theorem sst_key {key o : List Nat} {la : Bool} {pd : List Nat} (h : ∀ c ∈ key, c ≠ 34 ∧ ows c = false ∧ c ≠ 59 ∧ c ≠ 61) (hn : key ≠ []) : ∃ la', List.foldl sstep ⟨o, pd, false, la⟩ key = ⟨(if pd.isEmpty || la then o else o ++ pd) ++ key, [], false, la'⟩ := by
  cases key with
  | nil => exact absurd rfl hn
  | cons c r =>
    obtain ⟨h1, h2, h3, h4⟩ := h c (.head _)
    have e : sstep ⟨o, pd, false, la⟩ c = ⟨(if pd.isEmpty || la then o else o ++ pd) ++ [c], [], false, false⟩ := by
      unfold sstep
      rw [if_neg h1, if_neg (by simp [h2]), if_neg (by simp [h3, h4])]
      simp [flushP]
    obtain ⟨la', h9⟩ := sst_plain (l := r) (o := (if pd.isEmpty || la then o else o ++ pd) ++ [c]) (la := false) fun d hd => h d (.tail _ hd)
    exact ⟨la', by rw [List.foldl_cons, e, h9]; simp⟩
theorem sst_body {sg : Nat} {b1 b2 : Bool} {key val : List Nat} (h : KeyVal sg key val) (o : List Nat) (la : Bool) : ∃ la', List.foldl sstep ⟨o, [], false, la⟩ (bodyB sg b1 b2 key val) = ⟨(if b1 = true ∧ la = false then o ++ [sg] else o) ++ bodyB sg false false key val, [], false, la'⟩ := by
  have hsg : sg ≠ 34 := fun e => by have := h.hsg; rw [e] at this; cases this
  have hk : ∃ la1, List.foldl sstep ⟨o, [], false, la⟩ ((if b1 then [sg] else []) ++ key) = ⟨(if b1 = true ∧ la = false then o ++ [sg] else o) ++ key, [], false, la1⟩ := by
    cases b1
    · obtain ⟨l1, e1⟩ := sst_key (o := o) (la := la) (pd := []) h.hkey h.hkeyn
      exact ⟨l1, by simpa using e1⟩
    · have h2 : sstep ⟨o, [], false, la⟩ sg = ⟨o, [sg], false, la⟩ := by simp [sstep, hsg, h.hsg]
      obtain ⟨l1, e1⟩ := sst_key (o := o) (la := la) (pd := [sg]) h.hkey h.hkeyn
      refine ⟨l1, ?_⟩
      rw [if_pos rfl, List.singleton_append, List.foldl_cons, h2, e1]
      cases la <;> simp
  obtain ⟨l1, e1⟩ := hk
  obtain ⟨l2, e2⟩ := sst_tail (b2 := b2) h (if b1 = true ∧ la = false then o ++ [sg] else o) l1
  refine ⟨l2, ?_⟩
  rw [show bodyB sg b1 b2 key val = ((if b1 then [sg] else []) ++ key) ++ ((if b2 then [sg] else []) ++ 61 :: val) from by simp [bodyB], List.foldl_append, e1, e2]
  simp [bodyB]
theorem body0_no {sg : Nat} {key val : List Nat} (h : KeyVal sg key val) : (∀ c ∈ bodyB sg false false key val, ows c = false) ∧ bodyB sg false false key val ≠ [] := by
  constructor
  · intro c hc
    simp only [bodyB, Bool.false_eq_true, if_false, List.nil_append, List.mem_append, List.mem_cons] at hc
    rcases hc with hc | rfl | hc
    · exact (h.hkey c hc).2.1
    · decide
    · exact h.hval c hc
  · simp [bodyB]
structure KV where
  b1 : Bool
  b2 : Bool
  key : List Nat
  val : List Nat
theorem sst_rest {sg : Nat} : ∀ {l : List KV} {o : List Nat}, (∀ p ∈ l, KeyVal sg p.key p.val) → ∃ la', List.foldl sstep ⟨o, [], false, true⟩ (joinS 59 (l.map fun p => bodyB sg p.b1 p.b2 p.key p.val)) = ⟨o ++ joinS 59 (l.map fun p => bodyB sg false false p.key p.val), [], false, la'⟩
  | [], o, _ => ⟨true, by simp [joinS]⟩
  | [p], o, h => by
    obtain ⟨l1, e1⟩ := sst_body (b1 := p.b1) (b2 := p.b2) (h p (.head _)) o true
    exact ⟨l1, by simpa [joinS] using e1⟩
  | p :: p2 :: r, o, h => by
    have hp := h p (.head _)
    obtain ⟨l1, e1⟩ := sst_body (b1 := p.b1) (b2 := p.b2) hp o true
    obtain ⟨n1, n2⟩ := body0_no hp
    obtain ⟨l2, e2⟩ := sst_rest (l := p2 :: r) (o := o ++ bodyB sg false false p.key p.val ++ [59]) fun q hq => h q (.tail _ hq)
    refine ⟨l2, ?_⟩
    rw [List.map_cons, List.map_cons, show joinS 59 (bodyB sg p.b1 p.b2 p.key p.val :: bodyB sg p2.b1 p2.b2 p2.key p2.val :: List.map (fun p => bodyB sg p.b1 p.b2 p.key p.val) r) = bodyB sg p.b1 p.b2 p.key p.val ++ 59 :: joinS 59 (List.map (fun p => bodyB sg p.b1 p.b2 p.key p.val) (p2 :: r)) from rfl, List.foldl_append, e1, if_neg (by simp), List.foldl_cons]
    have h3 : sstep ⟨o ++ bodyB sg false false p.key p.val, [], false, l1⟩ 59 = ⟨o ++ bodyB sg false false p.key p.val ++ [59], [], false, true⟩ := by
      have : ows 59 = false := by decide
      simp [sstep, this, trimR_no n1 n2 o]
    rw [h3, e2]
    simp [joinS]
theorem sst_all {sg : Nat} {p : KV} {l : List KV} (h : ∀ q ∈ p :: l, KeyVal sg q.key q.val) : ∃ la', List.foldl sstep ⟨[], [], false, false⟩ (joinS 59 ((p :: l).map fun p => bodyB sg p.b1 p.b2 p.key p.val)) = ⟨(if p.b1 then [sg] else []) ++ joinS 59 ((p :: l).map fun p => bodyB sg false false p.key p.val), [], false, la'⟩ := by
  have hp := h p (.head _)
  obtain ⟨l1, e1⟩ := sst_body (b1 := p.b1) (b2 := p.b2) hp [] false
  have e0 : (if p.b1 = true ∧ false = false then [] ++ [sg] else ([] : List Nat)) = (if p.b1 then [sg] else []) := by cases p.b1 <;> simp
  rw [e0] at e1
  obtain ⟨n1, n2⟩ := body0_no hp
  cases l with
  | nil => exact ⟨l1, e1⟩
  | cons p2 r =>
    obtain ⟨l2, e2⟩ := sst_rest (l := p2 :: r) (o := (if p.b1 then [sg] else []) ++ bodyB sg false false p.key p.val ++ [59]) fun q hq => h q (.tail _ hq)
    refine ⟨l2, ?_⟩
    rw [List.map_cons, List.map_cons, show joinS 59 (bodyB sg p.b1 p.b2 p.key p.val :: bodyB sg p2.b1 p2.b2 p2.key p2.val :: List.map (fun p => bodyB sg p.b1 p.b2 p.key p.val) r) = bodyB sg p.b1 p.b2 p.key p.val ++ 59 :: joinS 59 (List.map (fun p => bodyB sg p.b1 p.b2 p.key p.val) (p2 :: r)) from rfl, List.foldl_append, e1, List.foldl_cons]
    have h3 : sstep ⟨(if p.b1 then [sg] else []) ++ bodyB sg false false p.key p.val, [], false, l1⟩ 59 = ⟨(if p.b1 then [sg] else []) ++ bodyB sg false false p.key p.val ++ [59], [], false, true⟩ := by
      have : ows 59 = false := by decide
      simp [sstep, this, trimR_no n1 n2]
    rw [h3, e2]
    simp [joinS]
end Mine
end
/-! part Pl7 -/
section
theorem Mine.startPl7 : True := by
  w_top off
  exact trivial
open PySem PySem.W PyProof.Rows PySem.Calls PySem.Spec PySem.Builtin PySem.Builtin.Str
set_option Elab.async false
set_option maxRecDepth 100000
namespace Mine
theorem tw_no {goes : Nat → Bool} : ∀ {l : List Nat}, (∀ c ∈ l, goes c = true) → l.takeWhile goes = l
  | [], _ => rfl
  | c :: r, h => by rw [List.takeWhile_cons, if_pos (h c (.head _)), tw_no fun d hd => h d (.tail _ hd)]
theorem tw_app {goes : Nat → Bool} : ∀ {l : List Nat} {r : List Nat}, (∀ c ∈ l, goes c = true) → (l ++ r).takeWhile goes = l ++ r.takeWhile goes
  | [], _, _ => rfl
  | c :: l, r, h => by rw [List.cons_append, List.takeWhile_cons, if_pos (h c (.head _)), tw_app fun d hd => h d (.tail _ hd)]; rfl
theorem tw_stop {goes : Nat → Bool} : ∀ {l r : List Nat}, l ≠ [] → (∀ c ∈ l, goes c = false) → (l ++ r).takeWhile goes = []
  | [], _, h, _ => absurd rfl h
  | c :: l, r, _, h => by rw [List.cons_append, List.takeWhile_cons, if_neg (by simp [h c (.head _)])]
theorem strip_mid {goes : Nat → Bool} {pre mid post : List Nat} (h1 : ∀ c ∈ pre, goes c = true) (h2 : ∀ c ∈ mid, goes c = false) (h3 : ∀ c ∈ post, goes c = true) :
    Txt.stripBy goes true true (S (pre ++ (mid ++ post))) = S mid := by
  rw [PyProof.Rows.stripBy_eq]
  by_cases hm : mid = []
  · subst hm
    have hlo : stripLo goes true (S (pre ++ ([] ++ post))) = (pre ++ post).length := by
      simp only [stripLo, if_true, List.nil_append]
      rw [tw_no]
      intro c hc
      rcases List.mem_append.mp hc with e | e
      · exact h1 c e
      · exact h3 c e
    have hhi : stripHi goes true (S (pre ++ ([] ++ post))) (pre ++ post).length = (pre ++ post).length := by
      simp only [stripHi, if_true, List.nil_append, S_len]
      simp
    rw [hlo, hhi]
    apply Str.ext'
    simp [strSub]
  · have hlo : stripLo goes true (S (pre ++ (mid ++ post))) = pre.length := by
      simp only [stripLo, if_true]
      rw [tw_app h1, tw_stop hm h2, List.append_nil]
    have hhi : stripHi goes true (S (pre ++ (mid ++ post))) pre.length = pre.length + mid.length := by
      simp only [stripHi, if_true, S_len]
      have hr : mid.reverse.takeWhile goes = [] := by
        rw [← List.append_nil mid.reverse]
        exact tw_stop (by simpa using hm) (by simpa using h2)
      rw [show (S (pre ++ (mid ++ post))).cps.toList.drop pre.length = mid ++ post from by simp, List.reverse_append, tw_app (by simpa using h3), hr]
      simp
      omega
    rw [hlo, hhi]
    apply Str.ext'
    simp [strSub]
/-! guarding of percent signs -/
theorem rep_37 : ∀ t : List Nat, rep [37] [37, 50, 53] t = t.flatMap f37
  | [] => rfl
  | c :: t => by
    have ih := rep_37 t
    rw [List.flatMap_cons, rep_cons (by simp)]
    by_cases h : c = 37
    · subst h
      rw [if_pos (by simp [List.isPrefixOf])]
      show [37, 50, 53] ++ rep _ _ t = _
      rw [ih]; rfl
    · rw [if_neg (by simp [List.isPrefixOf, Ne.symm h]), ih]
      simp [f37, h]
theorem escT_S {t : List Nat} (h : 92 ∉ t) : escT (S t) = S (t.flatMap f37) := by
  have hf : 92 ∉ t.flatMap f37 := by
    intro hm
    obtain ⟨c, hc, hd⟩ := List.mem_flatMap.mp hm
    unfold f37 at hd
    split at hd
    · revert hd; decide
    · rw [List.mem_singleton] at hd; exact h (hd ▸ hc)
  unfold escT
  rw [show Str.ofString "%" = S [37] from by decide +kernel, show Str.ofString "%25" = S [37, 50, 53] from by decide +kernel, show Str.ofString "\\," = S [92, 44] from by decide +kernel, show Str.ofString "%2C" = S [37, 50, 67] from by decide +kernel,
    show Str.ofString "\\:" = S [92, 58] from by decide +kernel, show Str.ofString "%3A" = S [37, 51, 65] from by decide +kernel, show Str.ofString "\\;" = S [92, 59] from by decide +kernel, show Str.ofString "%3B" = S [37, 51, 66] from by decide +kernel, show Str.ofString "\\\\" = S [92, 92] from by decide +kernel, show Str.ofString "%5C" = S [37, 53, 67] from by decide +kernel]
  rw [replace_S (y := [37]) (by simp), rep_37]
  have h4 : ∀ (a : Nat) (z : List Nat), Txt.replace (S (t.flatMap f37)) (S [92, a]) (S z) = S (t.flatMap f37) := fun a z => by rw [replace_S (by simp), rep_free rfl _ hf]
  rw [h4, h4, h4, h4]
/-! the text of a line -/
theorem ub_c {c : Nat} (h : c ≠ 92) : ∀ r : List Nat, ub (c :: r) = c :: ub r
  | [] => rfl
  | d :: r => by rw [ub, if_neg (fun e => h e.1)]
theorem ub_escV : ∀ {t : List Nat}, (∀ c ∈ t, c ∈ signsL) → ub (escV t) = t
  | [], _ => rfl
  | c :: t, h => by
    have ih := ub_escV (t := t) fun d hd => h d (.tail _ hd)
    show ub (escD c ++ escV t) = _
    generalize escV t = u at ih ⊢
    by_cases h1 : c = 92
    · subst h1
      show ub (92 :: 92 :: u) = _
      rw [ub, if_pos ⟨rfl, by decide⟩, if_neg (by decide), ih]
    · by_cases h2 : c = 10
      · subst h2
        show ub (92 :: 110 :: u) = _
        rw [ub, if_pos ⟨rfl, by decide⟩, if_pos (by decide), ih]
      · by_cases h3 : c = 44
        · subst h3
          show ub (92 :: 44 :: u) = _
          rw [ub, if_pos ⟨rfl, by decide⟩, if_neg (by decide), ih]
        · by_cases h4 : c = 59
          · subst h4
            show ub (92 :: 59 :: u) = _
            rw [ub, if_pos ⟨rfl, by decide⟩, if_neg (by decide), ih]
          · have e : escD c = [c] := by simp [escD, h1, h2, h3, h4]
            rw [e]
            show ub (c :: u) = _
            rw [ub_c h1, ih]
/-! the parameters' text -/
def bodyW (sg : Nat) (p : PD) : List Nat := bodyB sg p.b1 p.b2 p.key (joinS 44 (List.zipWith wrP p.qs p.ts))
def body0 (sg : Nat) (p : PD) : List Nat := bodyB sg false false p.key (joinS 44 (List.zipWith wrP p.qs p.ts))
theorem joinC_S : ∀ l : List (List Nat), joinC l = joinS 44 l
  | [] => rfl
  | [_] => rfl
  | x :: y :: r => by rw [joinC, joinC_S (y :: r)]; rfl
theorem parT_B (sg : Nat) (p : PD) : parT sg p = 59 :: bodyW sg p := by
  simp [parT, bodyW, bodyB, joinC_S]
theorem parts_flat (sg : Nat) : ∀ (p : PD) (ps : List PD), ((p :: ps).map (parT sg)).flatten = 59 :: joinS 59 ((p :: ps).map (bodyW sg))
  | p, [] => by simp [parT_B, joinS]
  | p, p2 :: r => by
    rw [List.map_cons, List.flatten_cons, parts_flat sg p2 r, parT_B]
    simp [joinS]
theorem mem_joinS {sep d : Nat} : ∀ {l : List (List Nat)}, d ∈ joinS sep l → d = sep ∨ ∃ x ∈ l, d ∈ x
  | [], h => nomatch h
  | [x], h => .inr ⟨x, .head _, h⟩
  | x :: y :: r, h => by
    rcases List.mem_append.mp h with e | e
    · exact .inr ⟨x, .head _, e⟩
    · rcases List.mem_cons.mp e with e | e
      · exact .inl e
      · rcases mem_joinS e with e | ⟨z, hz, e⟩
        · exact .inl e
        · exact .inr ⟨z, .tail _ hz, e⟩
theorem joinS_mem {sep d : Nat} : ∀ {l : List (List Nat)} {x : List Nat}, x ∈ l → d ∈ x → d ∈ joinS sep l
  | [y], x, h, hd => by rw [List.mem_singleton.mp h] at hd; exact hd
  | y :: z :: r, x, h, hd => by
    rcases List.mem_cons.mp h with e | e
    · exact List.mem_append.mpr (.inl (e ▸ hd))
    · exact List.mem_append.mpr (.inr (.tail _ (joinS_mem e hd)))
theorem joinS_flat {sep : Nat} (h : sep ≠ 37) : ∀ l : List (List Nat), (joinS sep l).flatMap f37 = joinS sep (l.map fun x => x.flatMap f37)
  | [] => rfl
  | [_] => rfl
  | x :: y :: r => by
    show (x ++ sep :: joinS sep (y :: r)).flatMap f37 = _
    rw [List.flatMap_append, List.flatMap_cons, joinS_flat h (y :: r), show f37 sep = [sep] from if_neg h]
    rfl
theorem key_eq {bl : Int} {i : Nat} {p : PD} (h : PDok bl i p) : p.key = kyA ∨ p.key = kyB := by
  rw [h.key]
  unfold keyAt
  split
  · exact .inl rfl
  · exact .inr rfl
/-- the signs of a written value -/
theorem escC_mem : ∀ c ∈ marks, ∀ d ∈ escC c, d ≠ 34 ∧ ows d = false ∧ d ≠ 61 ∧ d ≠ 92 ∧ Unicode.isSpace d = false ∧ (c ≠ 44 ∧ c ≠ 59 ∧ c ≠ 58 → d ≠ 44 ∧ d ≠ 59 ∧ d ≠ 58) := by decide +kernel
theorem escP_mem {t : List Nat} {d : Nat} (h : d ∈ escP t) : ∃ c ∈ t, d ∈ escC c := by
  unfold escP at h
  obtain ⟨x, hx, hd⟩ := List.mem_flatten.mp h
  obtain ⟨c, hc, rfl⟩ := List.mem_map.mp hx
  exact ⟨c, hc, hd⟩
/-- one value with its quotes: its text is of the marks, and plain when it is not in quotes -/
theorem val_at {bl : Int} {i : Nat} {p : PD} (h : PDok bl i p) {f : Bool → List Nat → List Nat} {x : List Nat} (hx : x ∈ List.zipWith f p.qs p.ts) : ∃ q t, x = f q t ∧ t ∈ p.ts ∧ t.length ≤ 4 ∧ (∀ c ∈ t, c ∈ marks) ∧ (q = false → ∀ c ∈ t, c ≠ 44 ∧ c ≠ 59 ∧ c ≠ 58 ∧ c ≠ 10) := by
  obtain ⟨j, hj, rfl⟩ := List.getElem_of_mem hx
  rw [List.length_zipWith] at hj
  have hm : p.ts[j]'(by omega) ∈ p.ts := List.getElem_mem _
  refine ⟨p.qs[j]'(by omega), p.ts[j]'(by omega), by rw [List.getElem_zipWith], hm, h.short _ hm, h.marks _ hm, fun hq => ?_⟩
  exact h.plain j _ _ (List.getElem?_eq_getElem (by omega)) (List.getElem?_eq_getElem (by omega)) hq
theorem wr_kept {bl : Int} {i : Nat} {p : PD} (h : PDok bl i p) : ∀ x ∈ List.zipWith wrP p.qs p.ts, Kept x := by
  intro x hx
  obtain ⟨q, t, rfl, _, _, hm, hq⟩ := val_at h hx
  unfold wrP
  cases q
  · refine .plain fun d hd => ?_
    obtain ⟨c, hc, hd⟩ := escP_mem hd
    obtain ⟨a1, a2, a3, _, _, a4⟩ := escC_mem c (hm c hc) d hd
    obtain ⟨b1, b2, b3, _⟩ := hq rfl c hc
    exact ⟨a1, a2, (a4 ⟨b1, b2, b3⟩).2.1, a3⟩
  · refine .quoted fun d hd => ?_
    obtain ⟨c, hc, hd⟩ := escP_mem hd
    exact (escC_mem c (hm c hc) d hd).1
theorem wr_mem {bl : Int} {i : Nat} {p : PD} (h : PDok bl i p) : ∀ x ∈ List.zipWith wrP p.qs p.ts, ∀ d ∈ x, ows d = false ∧ d ≠ 92 ∧ Unicode.isSpace d = false := by
  intro x hx d hd
  obtain ⟨q, t, rfl, _, _, hm, hq⟩ := val_at h hx
  have hE : d ∈ escP t → ows d = false ∧ d ≠ 92 ∧ Unicode.isSpace d = false := fun hd => by
    obtain ⟨c, hc, hd⟩ := escP_mem hd
    obtain ⟨a1, a2, a3, a4, a5, _⟩ := escC_mem c (hm c hc) d hd
    exact ⟨a2, a4, a5⟩
  have h34 : ows 34 = false ∧ 34 ≠ 92 ∧ Unicode.isSpace 34 = false := by decide +kernel
  unfold wrP at hd
  cases q
  · exact hE hd
  · rcases List.mem_cons.mp hd with e | e
    · rw [e]; exact h34
    · rcases List.mem_append.mp e with e | e
      · exact hE e
      · rw [List.mem_singleton.mp e]; exact h34
theorem val_mem {bl : Int} {i : Nat} {p : PD} (h : PDok bl i p) : ∀ d ∈ joinS 44 (List.zipWith wrP p.qs p.ts), ows d = false ∧ d ≠ 92 ∧ Unicode.isSpace d = false := by
  intro d hd
  rcases mem_joinS hd with e | ⟨x, hx, e⟩
  · rw [e]; decide +kernel
  · exact wr_mem h x hx d e
theorem key_mem {bl : Int} {i : Nat} {p : PD} (h : PDok bl i p) : (∀ c ∈ p.key, (c ≠ 34 ∧ ows c = false ∧ c ≠ 59 ∧ c ≠ 61) ∧ c ≠ 92 ∧ c ≠ 58 ∧ c ≠ 37 ∧ Unicode.isSpace c = false) ∧ p.key ≠ [] := by
  rcases key_eq h with e | e <;> rw [e] <;> decide +kernel
theorem sg_ows {sg : Nat} (h : sg = 32 ∨ sg = 9) : ows sg = true ∧ Unicode.isSpace sg = true ∧ sg ≠ 92 ∧ sg ≠ 37 ∧ sg ≠ 34 ∧ sg ≠ 58 ∧ sg ≠ 59 ∧ sg ≠ 61 := by
  rcases h with rfl | rfl <;> decide +kernel
theorem keyVal {bl : Int} {i sg : Nat} {p : PD} (hs : sg = 32 ∨ sg = 9) (h : PDok bl i p) : KeyVal sg p.key (joinS 44 (List.zipWith wrP p.qs p.ts)) where
  hsg := (sg_ows hs).1
  hkey := fun c hc => ((key_mem h).1 c hc).1
  hkeyn := (key_mem h).2
  hkept := .join (wr_kept h)
  hval := fun c hc => (val_mem h c hc).1
theorem body_mem {bl : Int} {i sg : Nat} {b1 b2 : Bool} {p : PD} (hs : sg = 32 ∨ sg = 9) (h : PDok bl i p) : ∀ c ∈ bodyB sg b1 b2 p.key (joinS 44 (List.zipWith wrP p.qs p.ts)), c ≠ 92 := by
  have hb : ∀ b : Bool, ∀ c ∈ (if b then [sg] else []), c ≠ 92 := fun b c hc => by
    cases b
    · cases hc
    · rw [List.mem_singleton.mp hc]; exact (sg_ows hs).2.2.1
  intro c hc
  simp only [bodyB, List.mem_append, List.mem_cons] at hc
  rcases hc with hc | hc | hc | hc | hc
  · exact hb _ c hc
  · exact ((key_mem h).1 c hc).2.1
  · exact hb _ c hc
  · rw [hc]; decide
  · exact (val_mem h c hc).2.1
theorem body0_sp {bl : Int} {i sg : Nat} {p : PD} (h : PDok bl i p) : ∀ c ∈ body0 sg p, Unicode.isSpace c = false := by
  intro c hc
  simp only [body0, bodyB, Bool.false_eq_true, if_false, List.nil_append, List.mem_append, List.mem_cons] at hc
  rcases hc with hc | hc | hc
  · exact ((key_mem h).1 c hc).2.2.2.2
  · rw [hc]; decide +kernel
  · exact (val_mem h c hc).2.2
def kvOf (p : PD) : KV := ⟨p.b1, p.b2, p.key, joinS 44 (List.zipWith wrP p.qs p.ts)⟩
/-- the strip of a run of parameters -/
theorem strip_run {bl : Int} {sg : Nat} (hs : sg = 32 ∨ sg = 9) {ps : List PD} (h : ∀ p ∈ ps, ∃ i, PDok bl i p) : stripF (joinS 59 (ps.map (bodyW sg))) = S (joinS 59 (ps.map (body0 sg))) := by
  unfold stripF
  have hsp : ∀ c ∈ joinS 59 (ps.map (body0 sg)), Unicode.isSpace c = false := by
    intro c hc
    rcases mem_joinS hc with e | ⟨x, hx, e⟩
    · rw [e]; decide +kernel
    · obtain ⟨p, hp, rfl⟩ := List.mem_map.mp hx
      obtain ⟨i, hi⟩ := h p hp
      exact body0_sp hi c e
  split
  · cases ps with
    | nil => rename_i h9; cases h9
    | cons p l =>
      obtain ⟨la, e⟩ := sst_all (sg := sg) (p := kvOf p) (l := l.map kvOf) (by
        intro q hq
        rw [← List.map_cons] at hq
        obtain ⟨p', hp', rfl⟩ := List.mem_map.mp hq
        obtain ⟨i, hi⟩ := h p' hp'
        exact keyVal hs hi)
      rw [← List.map_cons, List.map_map, List.map_map] at e
      have e1 : ((p :: l).map ((fun p : KV => bodyB sg p.b1 p.b2 p.key p.val) ∘ kvOf)) = (p :: l).map (bodyW sg) := rfl
      have e2 : ((p :: l).map ((fun p : KV => bodyB sg false false p.key p.val) ∘ kvOf)) = (p :: l).map (body0 sg) := rfl
      rw [e1, e2] at e
      rw [e]
      show Txt.strip (S ((if p.b1 then [sg] else []) ++ joinS 59 ((p :: l).map (body0 sg)))) = _
      have := strip_mid (goes := Unicode.isSpace) (pre := if p.b1 then [sg] else []) (mid := joinS 59 ((p :: l).map (body0 sg))) (post := []) (by
        intro c hc
        cases hb : p.b1
        · rw [hb] at hc; cases hc
        · rw [hb] at hc; rw [List.mem_singleton.mp hc]; exact (sg_ows hs).2.1) hsp (by simp)
      rw [List.append_nil] at this
      exact this
  · rename_i hn
    have hb : ∀ p ∈ ps, bodyW sg p = body0 sg p := by
      intro p hp
      have hno : ∀ c ∈ bodyW sg p, ows c = false := fun c hc => by
        cases ho : ows c with
        | false => rfl
        | true => exact absurd (List.any_eq_true.mpr ⟨c, joinS_mem (List.mem_map.mpr ⟨p, hp, rfl⟩) hc, ho⟩) hn
      unfold bodyW body0
      have h1 : p.b1 = false := by
        cases hb : p.b1 with
        | false => rfl
        | true =>
          have := hno sg (by simp [bodyW, bodyB, hb])
          rw [(sg_ows hs).1] at this; cases this
      have h2 : p.b2 = false := by
        cases hb : p.b2 with
        | false => rfl
        | true =>
          have := hno sg (by simp [bodyW, bodyB, hb])
          rw [(sg_ows hs).1] at this; cases this
      rw [h1, h2]
    rw [List.map_congr_left hb]
end Mine
end
/-! part Pl5 -/
section
theorem Mine.startPl5 : True := by
  w_top off
  exact trivial
local macro_rules | `(tactic| walk_at "pad0") => `(tactic| skip)
open PySem PySem.W PyProof.Rows PySem.Calls PySem.Spec
set_option Elab.async false
namespace Mine
/-! where name and value end -/
theorem spT_eq (i c : Nat) (σ : SPS) : spT i c σ = spB (c == 34) (c == 92) (c == 58 || c == 59) (c == 58) i σ := by
  unfold spT
  rw [show Str.ofString "\"" = S [34] from by decide +kernel, show Str.ofString "\\" = S [92] from by decide +kernel, show Str.ofString ":;" = S [58, 59] from by decide +kernel, show Str.ofString ":" = S [58] from by decide +kernel, occ_S]
  have h : ∀ a b : Nat, (S [a] == S [b]) = (a == b) := fun a b => by
    rw [S_beq]
    by_cases e : a = b
    · subst e; simp
    · simp [e]
  rw [h, h, h, Bool.not_not]
  congr 1
  by_cases h1 : c = 58
  · simp [h1]
  · by_cases h2 : c = 59
    · simp [h2]
    · simp [h1, h2]
theorem spF_app : ∀ (a b : List Nat) (i : Nat) (σ : SPS), spF (a ++ b) i σ = spF b (i + a.length) (spF a i σ)
  | [], _, _, _ => by simp [spF]
  | c :: r, b, i, σ => by
    rw [List.cons_append, spF, spF, spF_app r b (i + 1), List.length_cons]
    congr 1
    omega
theorem sp_plain : ∀ {l : List Nat} {i : Nat} {ns vs : Option Nat}, (∀ c ∈ l, c ≠ 34 ∧ c ≠ 92 ∧ c ≠ 58 ∧ c ≠ 59) → spF l i ⟨ns, vs, false, false⟩ = ⟨ns, vs, false, false⟩
  | [], _, _, _, _ => rfl
  | c :: r, i, ns, vs, h => by
    obtain ⟨h1, h2, h3, h4⟩ := h c (.head _)
    rw [spF, spT_eq, show (c == 34) = false from by simp [h1], show (c == 92) = false from by simp [h2], show (c == 58) = false from by simp [h3], show (c == 59) = false from by simp [h4]]
    exact sp_plain fun d hd => h d (.tail _ hd)
theorem sp_inq : ∀ {l : List Nat} {i : Nat} {ns vs : Option Nat}, (∀ c ∈ l, c ≠ 34) → spF (l ++ [34]) i ⟨ns, vs, true, false⟩ = ⟨ns, vs, false, false⟩
  | [], i, ns, vs, _ => by
    rw [List.nil_append, spF, spT_eq, spF]; rfl
  | c :: r, i, ns, vs, h => by
    have h1 := h c (.head _)
    rw [List.cons_append, spF, spT_eq, show (c == 34) = false from by simp [h1]]
    have e : spB false (c == 92) (c == 58 || c == 59) (c == 58) i ⟨ns, vs, true, false⟩ = ⟨ns, vs, true, false⟩ := by
      simp [spB]
    rw [e]
    exact sp_inq fun d hd => h d (.tail _ hd)
theorem sp_quoted {l : List Nat} {i : Nat} {ns vs : Option Nat} (h : ∀ c ∈ l, c ≠ 34) : spF (34 :: (l ++ [34])) i ⟨ns, vs, false, false⟩ = ⟨ns, vs, false, false⟩ := by
  rw [spF, spT_eq]
  exact sp_inq h
/-- nothing is found in it once the name has ended -/
def Neut (l : List Nat) : Prop := ∀ (i a : Nat), spF l i ⟨some a, none, false, false⟩ = ⟨some a, none, false, false⟩
theorem Neut.app {a b : List Nat} (h1 : Neut a) (h2 : Neut b) : Neut (a ++ b) := fun i k => by rw [spF_app, h1, h2]
theorem Neut.plain {l : List Nat} (h : ∀ c ∈ l, c ≠ 34 ∧ c ≠ 92 ∧ c ≠ 58) : Neut l := by
  induction l with
  | nil => exact fun _ _ => rfl
  | cons c r ih =>
    intro i a
    obtain ⟨h1, h2, h3⟩ := h c (.head _)
    rw [spF, spT_eq, show (c == 34) = false from by simp [h1], show (c == 92) = false from by simp [h2], show (c == 58) = false from by simp [h3]]
    have e : spB false false (false || c == 59) false i ⟨some a, none, false, false⟩ = ⟨some a, none, false, false⟩ := by simp [spB]
    rw [e]
    exact ih (fun d hd => h d (.tail _ hd)) _ _
theorem Neut.quoted {l : List Nat} (h : ∀ c ∈ l, c ≠ 34) : Neut (34 :: (l ++ [34])) := fun _ _ => sp_quoted h
theorem Neut.flat : ∀ {l : List (List Nat)}, (∀ x ∈ l, Neut x) → Neut l.flatten
  | [], _ => fun _ _ => rfl
  | x :: r, h => by rw [List.flatten_cons]; exact (h x (.head _)).app (Neut.flat fun y hy => h y (.tail _ hy))
theorem spB_done (b1 b2 b3 b4 : Bool) (i a b : Nat) (q e : Bool) : ∃ q' e', spB b1 b2 b3 b4 i ⟨some a, some b, q, e⟩ = ⟨some a, some b, q', e'⟩ := by
  unfold spB
  dsimp only
  split
  · exact ⟨_, _, rfl⟩
  · split
    · exact ⟨_, _, rfl⟩
    · split
      · exact ⟨_, _, by simp; exact ⟨rfl, rfl⟩⟩
      · exact ⟨_, _, rfl⟩
theorem sp_done : ∀ (l : List Nat) (i a b : Nat) (q e : Bool), ∃ q' e', spF l i ⟨some a, some b, q, e⟩ = ⟨some a, some b, q', e'⟩
  | [], _, _, _, _, _ => ⟨_, _, rfl⟩
  | c :: r, i, a, b, q, e => by
    obtain ⟨q', e', h⟩ := spB_done (c == 34) (c == 92) (c == 58 || c == 59) (c == 58) i a b q e
    rw [spF, spT_eq, h]
    exact sp_done r _ a b q' e'
/-- the two places of a line -/
theorem sp_line {hd mid tl : List Nat} (h1 : ∀ c ∈ hd, c ≠ 34 ∧ c ≠ 92 ∧ c ≠ 58 ∧ c ≠ 59) (h2 : mid = [] ∨ ∃ r, mid = 59 :: r ∧ Neut r) :
    (spF (hd ++ (mid ++ 58 :: tl)) 0 ⟨none, none, false, false⟩).ns = some hd.length ∧ (spF (hd ++ (mid ++ 58 :: tl)) 0 ⟨none, none, false, false⟩).vs = some (hd.length + mid.length) := by
  rw [spF_app, sp_plain h1, Nat.zero_add]
  rcases h2 with rfl | ⟨r, rfl, hr⟩
  · rw [List.nil_append, spF, spT_eq]
    obtain ⟨q, e, h⟩ := sp_done tl (hd.length + 1) hd.length hd.length false false
    have e0 : spB (58 == 34) (58 == 92) (58 == 58 || 58 == 59) (58 == 58) hd.length ⟨none, none, false, false⟩ = ⟨some hd.length, some hd.length, false, false⟩ := rfl
    rw [e0, h]
    exact ⟨rfl, rfl⟩
  · rw [List.cons_append, spF, spT_eq]
    have e0 : spB (59 == 34) (59 == 92) (59 == 58 || 59 == 59) (59 == 58) hd.length ⟨none, none, false, false⟩ = ⟨some hd.length, none, false, false⟩ := rfl
    rw [e0, spF_app, hr, spF, spT_eq]
    obtain ⟨q, e, h⟩ := sp_done tl (hd.length + 1 + r.length + 1) hd.length (hd.length + 1 + r.length) false false
    have e1 : spB (58 == 34) (58 == 92) (58 == 58 || 58 == 59) (58 == 58) (hd.length + 1 + r.length) ⟨some hd.length, none, false, false⟩ = ⟨some hd.length, some (hd.length + 1 + r.length), false, false⟩ := rfl
    rw [e1, h, List.length_cons]
    refine ⟨rfl, ?_⟩
    show some (hd.length + 1 + r.length) = some (hd.length + (r.length + 1))
    exact congrArg some (by omega)
end Mine
end
/-! part Pl4 -/
section
theorem Mine.startPl4 : True := by
  w_top off
  exact trivial
open PySem PySem.W PyProof.Rows PySem.Calls PySem.Spec PySem.Builtin PySem.Builtin.Str
set_option Elab.async false
set_option maxRecDepth 100000
namespace Mine
def isFail : Option Sre.Outcome → Bool
  | some .failed => true
  | _ => false
def isHit : Option Sre.Outcome → Bool
  | some .matched => true
  | _ => false
theorem noHit_of {code : Array Nat} {c : Nat} (h : isFail ((Sre.forMatch code #[c] 0 0 1 false false).runFor (4 * (20 + 1))).outcome = true) : NoHit code c := ⟨20, by decide, by
  revert h
  generalize ((Sre.forMatch code #[c] 0 0 1 false false).runFor (4 * (20 + 1))).outcome = o
  intro h
  match o, h with
  | some .failed, _ => rfl⟩
theorem qun_ok : ∀ c ∈ [97, 110, 44, 59, 58, 39, 233, 37, 94, 66, 50, 53], isFail ((Sre.forMatch qunsafeCode #[c] 0 0 1 false false).runFor (4 * (20 + 1))).outcome = true := by decide +kernel
theorem un_ok : ∀ c ∈ [97, 110, 39, 233, 37, 94, 66, 50, 53], isFail ((Sre.forMatch unsafeCode #[c] 0 0 1 false false).runFor (4 * (20 + 1))).outcome = true := by decide +kernel
theorem name_ok {x : Str} {b : Bool} (h : (if b then isHit else isFail) ((Sre.forMatch nameCode x.cps 0 0 x.cps.size true false).runFor (4 * (60 + 1))).outcome = true) : NameOk x b := ⟨60, by decide, by
  revert h
  generalize ((Sre.forMatch nameCode x.cps 0 0 x.cps.size true false).runFor (4 * (60 + 1))).outcome = o
  intro h
  cases b with
  | true => match o, h with | some .matched, _ => rfl
  | false => match o, h with | some .failed, _ => rfl⟩

end Mine
end
/-! part Pl8 -/
section
theorem Mine.startPl8 : True := by
  w_top off
  exact trivial
open PySem PySem.W PyProof.Rows PySem.Calls PySem.Spec PySem.Builtin PySem.Builtin.Str
set_option Elab.async false
set_option maxRecDepth 100000
namespace Mine
/-! one value: written with its guards -/
def wr1 (q : Bool) (t : List Nat) : List Nat := if q then 34 :: (t.flatMap e1 ++ [34]) else t.flatMap e1
theorem wrP_f37 (q : Bool) (t : List Nat) : (wrP q t).flatMap f37 = wr1 q t := by
  unfold wrP wr1
  cases q
  · exact escP_f37 t
  · show (34 :: (escP t ++ [34])).flatMap f37 = 34 :: (t.flatMap e1 ++ [34])
    rw [List.flatMap_cons, List.flatMap_append, escP_f37]
    rfl
/-- a written text is of the marks, plain where it is not in quotes -/
def ValOk (q : Bool) (t : List Nat) : Prop := t.length ≤ 4 ∧ (∀ c ∈ t, c ∈ marks) ∧ (q = false → ∀ c ∈ t, c ≠ 44 ∧ c ≠ 59 ∧ c ≠ 58 ∧ c ≠ 10)
theorem e1_of {t : List Nat} (h : ∀ c ∈ t, c ∈ marks) {d : Nat} (hd : d ∈ t.flatMap e1) : ∃ c ∈ t, d ≠ 34 ∧ d ∈ [97, 110, 44, 59, 58, 39, 233, 37, 94, 66, 50, 53] ∧ (c ≠ 44 ∧ c ≠ 59 ∧ c ≠ 58 → d ≠ 44 ∧ d ≠ 59 ∧ d ≠ 58) := by
  obtain ⟨c, hc, hd⟩ := List.mem_flatMap.mp hd
  obtain ⟨a1, _, a3, a4⟩ := e1_mem c (h c hc) d hd
  exact ⟨c, hc, a1, a3, a4⟩
theorem wr1_bal {sep : Nat} (hs : sep = 44 ∨ sep = 59 ∨ sep = 61) {q : Bool} {t : List Nat} (h : ValOk q t) : bal sep (wr1 q t) false := by
  obtain ⟨_, hm, hq⟩ := h
  unfold wr1
  cases q
  · refine .plain fun d hd => ?_
    obtain ⟨c, hc, a1, a2, a3⟩ := e1_of hm hd
    obtain ⟨b1, b2, b3, _⟩ := hq rfl c hc
    obtain ⟨d1, d2, d3⟩ := a3 ⟨b1, b2, b3⟩
    refine ⟨a1, ?_⟩
    rcases hs with rfl | rfl | rfl
    · exact d1
    · exact d2
    · intro e; rw [e] at a2; revert a2; decide
  · exact .quoted (by omega) fun d hd => by
      obtain ⟨c, hc, a1, _⟩ := e1_of hm hd
      exact a1
theorem bal.join {sep : Nat} (hs : sep ≠ 44) : ∀ {l : List (List Nat)}, (∀ x ∈ l, bal sep x false) → bal sep (joinS 44 l) false
  | [], _ => rfl
  | [x], h => h x (.head _)
  | x :: y :: r, h => bal.app (bal.app (l := [44]) (bal.join (l := y :: r) hs fun z hz => h z (.tail _ hz)) (.plain (by intro c hc; rw [List.mem_singleton.mp hc]; exact ⟨by decide, fun e => hs e.symm⟩))) (h x (.head _))
theorem starts34 (v : List Nat) : Txt.startswith (S v) (S [34]) = (v.head? == some 34) := by
  unfold Txt.startswith
  rw [StrLaws.subAt_eq]
  cases v with
  | nil => rfl
  | cons c r => simp [S_len]
theorem ends34 (v : List Nat) : Txt.endswith (S (v ++ [34])) (S [34]) = true := by
  unfold Txt.endswith
  rw [StrLaws.subAt_eq]
  simp [S_len]
theorem f37_len (c : Nat) : (f37 c).length ≤ 3 := by unfold f37; split <;> simp
theorem e1_len (c : Nat) : (e1 c).length ≤ 6 := by
  unfold e1 escC
  by_cases h1 : c = 94
  · simp [h1, f37]
  · by_cases h2 : c = 10
    · simp [h2, f37]
    · by_cases h3 : c = 34
      · simp [h3, f37]
      · have := f37_len c
        simp [h1, h2, h3]; omega
theorem flat_len {f : Nat → List Nat} {n : Nat} (h : ∀ c, (f c).length ≤ n) : ∀ t : List Nat, (t.flatMap f).length ≤ n * t.length
  | [] => by simp
  | c :: t => by
    have h1 := flat_len h t
    have h2 := h c
    rw [List.flatMap_cons, List.length_append, List.length_cons, Nat.mul_succ]
    omega
/-- what a value is read as, in front of the last step -/
def rd1 (b q : Bool) (t : List Nat) : List Nat := if q || !b then t.flatMap f37 else (t.map up1).flatMap f37
theorem up1_len (t : List Nat) : (t.map up1).length = t.length := List.length_map ..
theorem rd1_len {b q : Bool} {t : List Nat} (h : t.length ≤ 4) : (rd1 b q t).length ≤ 12 := by
  unfold rd1
  split
  · have := flat_len f37_len t; omega
  · have := flat_len f37_len (t.map up1); rw [up1_len] at this; omega
theorem unT_rd1 {b q : Bool} {t : List Nat} (h : ValOk q t) : unT (S (rd1 b q t)) = rdP b q t := by
  unfold rd1 rdP
  split
  · exact unT_f37 t
  · rw [unT_f37, upper_S, upper_marks h.2.1]
theorem qF_no {v : List Nat} (h : 34 ∉ v) : qF v = false := by
  unfold qF
  rw [show Str.ofString "\"" = S [34] from by decide +kernel, starts34]
  cases v with
  | nil => rfl
  | cons c r =>
    have : c ≠ 34 := fun e => h (by rw [e]; exact .head _)
    simp [this]
theorem qF_yes (t : List Nat) : qF (34 :: (t ++ [34])) = true := by
  unfold qF
  rw [show Str.ofString "\"" = S [34] from by decide +kernel, starts34, show 34 :: (t ++ [34]) = (34 :: t) ++ [34] from rfl, ends34]
  rfl
theorem PV_ok {b q : Bool} {t : List Nat} (h : ValOk q t) : PV b (wr1 q t) (rd1 b q t) := by
  obtain ⟨hl, hm, hq⟩ := h
  unfold PV
  cases q
  · have hn : 34 ∉ wr1 false t := fun hd => by
      obtain ⟨c, hc, a1, _⟩ := e1_of hm hd
      exact a1 rfl
    rw [if_neg (by rw [qF_no hn]; decide)]
    have hu : upF (wr1 false t) = (t.map up1).flatMap e1 := by
      show upF (t.flatMap e1) = _
      unfold upF
      rw [upper_S, upper_e1 fun c hc => ⟨hm c hc, (hq rfl c hc).2.2.2⟩]
    refine ⟨fun d hd => ?_, ?_, ?_⟩
    · obtain ⟨c, hc, a1, a2, a3⟩ := e1_of hm hd
      obtain ⟨b1, b2, b3, _⟩ := hq rfl c hc
      obtain ⟨d1, d2, d3⟩ := a3 ⟨b1, b2, b3⟩
      refine noHit_of (un_ok d ?_)
      simp only [List.mem_cons, List.not_mem_nil, or_false] at a2 ⊢
      omega
    · rw [hu]
      cases b
      · show t.flatMap f37 = rf (t.flatMap e1)
        rw [rf_e1]
      · show (t.map up1).flatMap f37 = rf ((t.map up1).flatMap e1)
        rw [rf_e1]
    · rw [hu]
      have := flat_len e1_len (t.map up1)
      rw [up1_len] at this
      omega
  · show if qF (34 :: (t.flatMap e1 ++ [34])) = true then _ else _
    rw [if_pos (qF_yes _)]
    refine ⟨t.flatMap e1, ?_, ?_, fun d hd => ?_⟩
    · rw [show Str.ofString "\"" = S [34] from by decide +kernel]
      exact strip_mid (goes := (S [34]).cps.contains) (pre := [34]) (mid := t.flatMap e1) (post := [34]) (by decide +kernel) (fun c hc => by
        obtain ⟨_, _, a1, _⟩ := e1_of hm hc
        simp
        exact fun e => a1 e) (by decide +kernel)
    · rw [rf_e1]; rfl
    · obtain ⟨_, _, _, a2, _⟩ := e1_of hm hd
      exact noHit_of (qun_ok d a2)
end Mine
end
/-! part Pl9 -/
section
theorem Mine.startPl9 : True := by
  w_top off
  exact trivial
open PySem PySem.W PyProof.Rows PySem.Calls PySem.Spec PySem.Builtin PySem.Builtin.Str
set_option Elab.async false
set_option maxRecDepth 100000
namespace Mine
def valE (p : PD) : List Nat := joinS 44 (List.zipWith wr1 p.qs p.ts)
def bodyE (b : Bool) (sg : Nat) (p : PD) : List Nat := bodyB sg (b && p.b1) (b && p.b2) p.key (valE p)
def rsOf (b : Bool) (p : PD) : List (List Nat) := if valE p = [] then [] else List.zipWith (rd1 b) p.qs p.ts
def kuOf (b : Bool) (p : PD) : Str × UV := (S p.key, uvOf (valE p) (rsOf b p))
def bodyV (b : Bool) (sg : Nat) (p : PD) : List Nat := bodyB sg (b && p.b1) (b && p.b2) p.key (joinS 44 (List.zipWith wrP p.qs p.ts))
theorem val_f37 (p : PD) : (joinS 44 (List.zipWith wrP p.qs p.ts)).flatMap f37 = valE p := by
  rw [joinS_flat (by decide), List.map_zipWith]
  unfold valE
  congr 2
  funext q t
  exact wrP_f37 q t
theorem flat_id : ∀ {l : List Nat}, (∀ c ∈ l, c ≠ 37) → l.flatMap f37 = l
  | [], _ => rfl
  | c :: r, h => by
    rw [List.flatMap_cons, flat_id fun d hd => h d (.tail _ hd), f37, if_neg (h c (.head _))]
    rfl
theorem blk_mem {sg : Nat} {b : Bool} {c : Nat} (h : c ∈ (if b then [sg] else [])) : c = sg := by
  cases b
  · cases h
  · exact List.mem_singleton.mp h
theorem body_f37 {bl : Int} {i sg : Nat} {p : PD} (hs : sg = 32 ∨ sg = 9) (h : PDok bl i p) (b : Bool) : (bodyV b sg p).flatMap f37 = bodyE b sg p := by
  have hb : ∀ b : Bool, (if b then [sg] else []).flatMap f37 = (if b then [sg] else []) := fun b => flat_id fun c hc => by
    rw [blk_mem hc]; exact (sg_ows hs).2.2.2.1
  unfold bodyV bodyE bodyB
  rw [List.flatMap_append, List.flatMap_append, List.flatMap_append, List.flatMap_cons, val_f37, hb, hb, flat_id fun c hc => ((key_mem h).1 c hc).2.2.2.1]
  rfl
theorem join_le {sep : Nat} {f g : PD → List Nat} (h : ∀ p, (f p).length ≤ (g p).length) : ∀ ps : List PD, (joinS sep (ps.map f)).length ≤ (joinS sep (ps.map g)).length
  | [] => Nat.le_refl _
  | [p] => h p
  | p :: p2 :: r => by
    have h1 := join_le (sep := sep) h (p2 :: r)
    have h2 := h p
    show (f p ++ sep :: joinS sep ((p2 :: r).map f)).length ≤ (g p ++ sep :: joinS sep ((p2 :: r).map g)).length
    simp only [List.length_append, List.length_cons]
    omega
theorem map_f37 {bl : Int} {sg : Nat} (hs : sg = 32 ∨ sg = 9) {ps : List PD} (h : ∀ p ∈ ps, ∃ i, PDok bl i p) (b : Bool) : (joinS 59 (ps.map (bodyV b sg))).flatMap f37 = joinS 59 (ps.map (bodyE b sg)) := by
  rw [joinS_flat (by decide), List.map_map]
  congr 1
  refine List.map_congr_left fun p hp => ?_
  obtain ⟨i, hi⟩ := h p hp
  exact body_f37 hs hi b
theorem px_ok {bl : Int} {b : Bool} {sg : Nat} (hs : sg = 32 ∨ sg = 9) {ps : List PD} (h : ∀ p ∈ ps, ∃ i, PDok bl i p) {z : List Nat} {k v : Nat} (hx : (z.take v).drop (k + 1) = joinS 59 (ps.map (bodyW sg))) (hl : (joinS 59 (ps.map (bodyW sg))).length ≤ 80) :
    92 ∉ (z.take v).drop (k + 1) ∧ (rawT b z k v).length ≤ 900 ∧ escT (rawT b z k v) = S (joinS 59 (ps.map (bodyE b sg))) ∧ (joinS 59 (ps.map (bodyE b sg))).length ≤ 900 := by
  have h92 : ∀ b1 : Bool, 92 ∉ joinS 59 (ps.map (bodyV b1 sg)) := fun b1 hm => by
    rcases mem_joinS hm with e | ⟨x, hx, e⟩
    · revert e; decide
    · obtain ⟨p, hp, rfl⟩ := List.mem_map.mp hx
      obtain ⟨i, hi⟩ := h p hp
      exact body_mem hs hi _ e rfl
  have hle : (joinS 59 (ps.map (bodyV b sg))).length ≤ 80 := by
    refine Nat.le_trans (join_le (fun p => ?_) ps) hl
    unfold bodyV bodyW bodyB
    cases b <;> cases p.b1 <;> cases p.b2 <;> simp <;> omega
  have hraw : rawT b z k v = S (joinS 59 (ps.map (bodyV b sg))) := by
    unfold rawT
    rw [hx]
    cases b
    · exact strip_run hs h
    · rfl
  have hf := flat_len f37_len (joinS 59 (ps.map (bodyV b sg)))
  rw [map_f37 hs h b] at hf
  refine ⟨by rw [hx]; exact h92 true, ?_, ?_, by omega⟩
  · rw [hraw, S_len]; omega
  · rw [hraw, escT_S (h92 b), map_f37 hs h b]
/-! the parts found again -/
theorem val_ok {bl : Int} {i : Nat} {p : PD} (h : PDok bl i p) {f : Bool → List Nat → List Nat} {x : List Nat} (hx : x ∈ List.zipWith f p.qs p.ts) : ∃ q t, x = f q t ∧ ValOk q t := by
  obtain ⟨q, t, e, _, a, b, c⟩ := val_at h hx
  exact ⟨q, t, e, a, b, c⟩
def preK (sg : Nat) (b1 b2 : Bool) (key : List Nat) : List Nat := (if b1 then [sg] else []) ++ (key ++ (if b2 then [sg] else []))
theorem bodyB_pre (sg : Nat) (b1 b2 : Bool) (key val : List Nat) : bodyB sg b1 b2 key val = preK sg b1 b2 key ++ 61 :: val := by
  simp [bodyB, preK]
theorem pre_mem {bl : Int} {i sg : Nat} {p : PD} (hs : sg = 32 ∨ sg = 9) (h : PDok bl i p) {b1 b2 : Bool} : ∀ c ∈ preK sg b1 b2 p.key, c ≠ 34 ∧ c ≠ 59 ∧ c ≠ 61 ∧ c ≠ 92 ∧ c ≠ 58 ∧ c < 200 := by
  have hb : ∀ c, c = sg → c ≠ 34 ∧ c ≠ 59 ∧ c ≠ 61 ∧ c ≠ 92 ∧ c ≠ 58 ∧ c < 200 := fun c e => by omega
  have hk : ∀ c ∈ p.key, c ≠ 34 ∧ c ≠ 59 ∧ c ≠ 61 ∧ c ≠ 92 ∧ c ≠ 58 ∧ c < 200 := by
    rcases key_eq h with e | e <;> rw [e] <;> decide
  intro c hc
  unfold preK at hc
  rcases List.mem_append.mp hc with e | e
  · exact hb c (blk_mem e)
  · rcases List.mem_append.mp e with e | e
    · exact hk c e
    · exact hb c (blk_mem e)
theorem valE_bal {bl : Int} {i sep : Nat} {p : PD} (hs : sep = 59 ∨ sep = 61) (h : PDok bl i p) : bal sep (valE p) false := by
  refine bal.join (by omega) fun x hx => ?_
  obtain ⟨q, t, rfl, hv⟩ := val_ok h hx
  exact wr1_bal (.inr hs) hv
theorem body_bal {bl : Int} {i sg : Nat} {p : PD} {b1 b2 : Bool} (hs : sg = 32 ∨ sg = 9) (h : PDok bl i p) : bal 59 (bodyB sg b1 b2 p.key (valE p)) false := by
  rw [bodyB_pre, show preK sg b1 b2 p.key ++ 61 :: valE p = (preK sg b1 b2 p.key ++ [61]) ++ valE p from by simp]
  refine bal.app (valE_bal (.inl rfl) h) (.plain fun c hc => ?_)
  rcases List.mem_append.mp hc with e | e
  · obtain ⟨a1, a2, _⟩ := pre_mem hs h c e
    exact ⟨a1, a2⟩
  · rw [List.mem_singleton.mp e]; decide
theorem body_qs {bl : Int} {i sg : Nat} {p : PD} {b1 b2 : Bool} (hs : sg = 32 ∨ sg = 9) (h : PDok bl i p) : qs 61 1 (bodyB sg b1 b2 p.key (valE p)) false [] [] 0 = [preK sg b1 b2 p.key, valE p] := by
  rw [bodyB_pre]
  exact qs_one (by decide) (.plain fun c hc => by
    obtain ⟨a1, _, a3, _⟩ := pre_mem hs h c hc
    exact ⟨a1, a3⟩)
theorem qs59 {bl : Int} {b : Bool} {sg : Nat} (hs : sg = 32 ∨ sg = 9) {ps : List PD} (h : ∀ p ∈ ps, ∃ i, PDok bl i p) : qs 59 (-1) (joinS 59 (ps.map (bodyE b sg))) false [] [] 0 = ps.map (bodyE b sg) := by
  cases ps with
  | nil => rfl
  | cons p l =>
    refine (qs_join (by decide) (fun x hx => ?_) ?_ (by omega)).trans (List.nil_append _)
    · obtain ⟨q, hq, rfl⟩ := List.mem_map.mp hx
      obtain ⟨i, hi⟩ := h q hq
      exact body_bal hs hi
    · intro e
      have : 61 ∈ joinS 59 ((p :: l).map (bodyE b sg)) := joinS_mem (List.mem_map.mpr ⟨p, .head _, rfl⟩) (by rw [bodyE, bodyB_pre]; simp)
      rw [e] at this
      cases this
theorem qs44 {bl : Int} {i : Nat} {p : PD} (h : PDok bl i p) (hn : valE p ≠ []) : qs 44 (-1) (valE p) false [] [] 0 = List.zipWith wr1 p.qs p.ts := by
  refine (qs_join (by decide) (fun x hx => ?_) hn (by omega)).trans (List.nil_append _)
  obtain ⟨q, t, rfl, hv⟩ := val_ok h hx
  exact wr1_bal (.inl rfl) hv
theorem keys_ok : isHit ((Sre.forMatch nameCode (S kyA).cps 0 0 (S kyA).cps.size true false).runFor (4 * (60 + 1))).outcome = true ∧ isHit ((Sre.forMatch nameCode (S kyB).cps 0 0 (S kyB).cps.size true false).runFor (4 * (60 + 1))).outcome = true := by decide +kernel
theorem turn_ok {bl : Int} {b : Bool} {i sg : Nat} {p : PD} (hs : sg = 32 ∨ sg = 9) (h : PDok bl i p) (h1 : (b && p.b1) = false) (h2 : (b && p.b2) = false) : PTurn b (bodyE b sg p) (kuOf b p) := by
  refine ⟨p.key, valE p, rsOf b p, rfl, ?_, ?_, ?_, ?_⟩
  · unfold bodyE
    rw [h1, h2, body_qs hs h]
    simp [preK]
  · rcases key_eq h with e | e <;> rw [e]
    · exact name_ok (b := true) keys_ok.1
    · exact name_ok (b := true) keys_ok.2
  · unfold rsOf
    by_cases he : valE p = []
    · rw [if_pos he, he]; rfl
    · rw [if_neg he, qs44 h he, List.length_zipWith, List.length_zipWith]
  · intro j v hv
    unfold rsOf
    by_cases he : valE p = []
    · rw [he] at hv
      cases hv
    · rw [if_neg he]
      rw [qs44 h he] at hv
      obtain ⟨hj, rfl⟩ := List.getElem?_eq_some_iff.mp hv
      rw [List.length_zipWith] at hj
      have hq : j < p.qs.length := by omega
      have ht : j < p.ts.length := by omega
      refine ⟨rd1 b p.qs[j] p.ts[j], ?_, ?_⟩
      · rw [List.getElem?_eq_getElem (by rw [List.length_zipWith]; omega), List.getElem_zipWith]
      · rw [List.getElem_zipWith]
        have hm : p.ts[j] ∈ p.ts := List.getElem_mem _
        exact PV_ok ⟨h.short _ hm, h.marks _ hm, fun e => h.plain j _ _ (List.getElem?_eq_getElem hq) (List.getElem?_eq_getElem ht) e⟩
/-! what is told of a parameter -/
theorem key_up : Txt.upper (unT (Txt.upper (S kyA))) = Txt.upper (S kyA) ∧ Txt.upper (unT (Txt.upper (S kyB))) = Txt.upper (S kyB) := by decide +kernel
theorem key_dist : Txt.upper (S kyA) ≠ Txt.upper (S kyB) ∧ Txt.upper (unT (Txt.upper (S kyA))) ≠ Txt.upper (unT (Txt.upper (S kyB))) := by decide +kernel
theorem key_lens : ((Txt.upper (S kyA)).length ≤ 1000 ∧ (unT (Txt.upper (S kyA))).length ≤ 1000) ∧ (Txt.upper (S kyB)).length ≤ 1000 ∧ (unT (Txt.upper (S kyB))).length ≤ 1000 := by decide +kernel
theorem rs_two {bl : Int} {i : Nat} {p : PD} (h : PDok bl i p) : (∃ q t, p.qs = [q] ∧ p.ts = [t] ∧ ValOk q t) ∨ ∃ q t q2 t2, p.qs = [q, q2] ∧ p.ts = [t, t2] ∧ ValOk q t ∧ ValOk q2 t2 := by
  have hv : ∀ (j : Nat) (q : Bool) (t : List Nat), p.qs[j]? = some q → p.ts[j]? = some t → ValOk q t := fun j q t e1 e2 => by
    have hm : t ∈ p.ts := List.mem_of_getElem? e2
    exact ⟨h.short _ hm, h.marks _ hm, fun e => h.plain j _ _ e1 e2 e⟩
  have hl := h.len
  have h1 := h.one
  have h2 := h.two
  match hq : p.qs, ht : p.ts with
  | [], [] => rw [ht] at h1; simp at h1
  | [q], [t] => exact .inl ⟨q, t, rfl, rfl, hv 0 q t (by rw [hq]; rfl) (by rw [ht]; rfl)⟩
  | [q, q2], [t, t2] => exact .inr ⟨q, t, q2, t2, rfl, rfl, hv 0 q t (by rw [hq]; rfl) (by rw [ht]; rfl), hv 1 q2 t2 (by rw [hq]; rfl) (by rw [ht]; rfl)⟩
  | _, _ :: _ :: _ :: _ => rw [ht] at h2; simp at h2
  | [], _ :: _ => rw [hq, ht] at hl; simp at hl
  | _ :: _, [] => rw [hq, ht] at hl; simp at hl
  | [_], _ :: _ :: _ => rw [hq, ht] at hl; simp at hl
  | _ :: _ :: _, [_] => rw [hq, ht] at hl; simp at hl
  | _ :: _ :: _ :: _, [_, _] => rw [hq, ht] at hl; simp at hl
theorem e1_ne (c : Nat) : e1 c ≠ [] := by
  unfold e1 escC
  by_cases h1 : c = 94
  · simp [h1, f37]
  · by_cases h2 : c = 10
    · simp [h2, f37]
    · by_cases h3 : c = 34
      · simp [h3, f37]
      · simp only [h1, h2, h3, if_false, List.flatMap_cons, List.flatMap_nil, List.append_nil]
        unfold f37
        split <;> simp
theorem wr1_nil {q : Bool} {t : List Nat} (h : wr1 q t = []) : q = false ∧ t = [] := by
  cases q
  · refine ⟨rfl, ?_⟩
    cases t with
    | nil => rfl
    | cons c r =>
      have : e1 c ++ r.flatMap e1 = [] := h
      exact absurd (List.append_eq_nil_iff.mp this).1 (e1_ne c)
  · cases h
theorem ku_uv {bl : Int} {b : Bool} {i : Nat} {p : PD} (h : PDok bl i p) : unUV (kuOf b p).2 = (dueP b p).2 ∧ UVlen (kuOf b p).2 := by
  have hr : ∀ {q t}, ValOk q t → (S (rd1 b q t)).length ≤ 1000 := fun {q t} hv => by
    rw [S_len]
    have := rd1_len (b := b) (q := q) hv.1
    omega
  rcases rs_two h with ⟨q, t, e1, e2, hv⟩ | ⟨q, t, q2, t2, e1, e2, hv, hv2⟩
  · have hE : valE p = wr1 q t := by unfold valE; rw [e1, e2]; rfl
    have hD : (dueP b p).2 = .one (rdP b q t) := by unfold dueP; rw [e1, e2]; rfl
    by_cases he : valE p = []
    · have hK : (kuOf b p).2 = .one (S []) := by unfold kuOf rsOf; rw [if_pos he, he]; rfl
      rw [hE] at he
      obtain ⟨rfl, rfl⟩ := wr1_nil he
      rw [hK, hD]
      refine ⟨?_, by show (S []).length ≤ 1000; decide⟩
      show UV.one (unT (S [])) = _
      rw [← unT_rd1 (b := b) hv]
      cases b <;> rfl
    · have hK : (kuOf b p).2 = .one (S (rd1 b q t)) := by unfold kuOf rsOf; rw [if_neg he, e1, e2]; rfl
      rw [hK, hD]
      exact ⟨congrArg UV.one (unT_rd1 hv), hr hv⟩
  · have he : valE p ≠ [] := by
      unfold valE; rw [e1, e2]
      show wr1 q t ++ 44 :: wr1 q2 t2 ≠ []
      simp
    have hD : (dueP b p).2 = .many [rdP b q t, rdP b q2 t2] := by unfold dueP; rw [e1, e2]; rfl
    have hK : (kuOf b p).2 = .many [S (rd1 b q t), S (rd1 b q2 t2)] := by unfold kuOf rsOf; rw [if_neg he, e1, e2]; rfl
    rw [hK, hD]
    refine ⟨?_, Nat.le_of_ble_eq_true rfl, fun x hx => ?_⟩
    · show UV.many [unT (S (rd1 b q t)), unT (S (rd1 b q2 t2))] = _
      rw [unT_rd1 hv, unT_rd1 hv2]
    · rcases List.mem_cons.mp hx with e | e
      · rw [e]; exact hr hv
      · rw [List.mem_singleton.mp e]; exact hr hv2
theorem ku_due {bl : Int} {b : Bool} {i : Nat} {p : PD} (h : PDok bl i p) : (Txt.upper (unT (Txt.upper (kuOf b p).1)), unUV (kuOf b p).2) = dueP b p := by
  have h1 : Txt.upper (unT (Txt.upper (kuOf b p).1)) = (dueP b p).1 := by
    show Txt.upper (unT (Txt.upper (S p.key))) = Txt.upper (S p.key)
    rcases key_eq h with e | e <;> rw [e]
    · exact key_up.1
    · exact key_up.2
  rw [h1, (ku_uv h).1]
theorem ku_len {bl : Int} {b : Bool} {i : Nat} {p : PD} (h : PDok bl i p) : (Txt.upper (kuOf b p).1).length ≤ 1000 ∧ (unT (Txt.upper (kuOf b p).1)).length ≤ 1000 := by
  show (Txt.upper (S p.key)).length ≤ 1000 ∧ (unT (Txt.upper (S p.key))).length ≤ 1000
  rcases key_eq h with e | e <;> rw [e]
  · exact key_lens.1
  · exact key_lens.2
theorem key_nodup {bl : Int} {ps : List PD} (hl : ps.length ≤ 2) (h : ∀ (i : Nat) (p : PD), ps[i]? = some p → PDok bl i p) {g : Str → Str} (hg : g (S kyA) ≠ g (S kyB)) : (ps.map fun p => g (S p.key)).Nodup := by
  match ps, hl, h with
  | [], _, _ => exact List.nodup_nil
  | [p], _, _ => simp
  | [p, q], _, h =>
    have h1 := (h 0 p rfl).key
    have h2 := (h 1 q rfl).key
    rw [show keyAt 0 = kyA from rfl] at h1
    rw [show keyAt 1 = kyB from rfl] at h2
    simp [h1, h2, hg]
/-! a key that is refused -/
theorem bad_keys : ∀ ky ∈ [kyA, kyB], ∀ sg ∈ [32, 9], ∀ bb ∈ [(true, false), (false, true), (true, true)], isFail ((Sre.forMatch nameCode (S (preK sg bb.1 bb.2 ky)).cps 0 0 (S (preK sg bb.1 bb.2 ky)).cps.size true false).runFor (4 * (60 + 1))).outcome = true := by decide +kernel
theorem bad_ok {bl : Int} {b : Bool} {i sg : Nat} {p : PD} (hs : sg = 32 ∨ sg = 9) (h : PDok bl i p) (hb : (b && p.b1) = true ∨ (b && p.b2) = true) : PBad (bodyE b sg p) := by
  refine ⟨?_, preK sg (b && p.b1) (b && p.b2) p.key, valE p, body_qs hs h, ?_⟩
  · intro c hc
    rw [bodyE, bodyB_pre] at hc
    have h3 : c < 300 := by
      rcases List.mem_append.mp hc with e | e
      · have := (pre_mem hs h c e).2.2.2.2.2
        omega
      · rcases List.mem_cons.mp e with e | e
        · omega
        · unfold valE at e
          rcases mem_joinS e with e | ⟨x, hx, e⟩
          · omega
          · obtain ⟨q, t, rfl, hv⟩ := val_ok h hx
            have hE : c ∈ t.flatMap e1 → c < 300 := fun hc => by
              obtain ⟨d, _, _, a, _⟩ := e1_of hv.2.1 hc
              simp only [List.mem_cons, List.not_mem_nil, or_false] at a
              omega
            unfold wr1 at e
            cases q
            · exact hE e
            · rcases List.mem_cons.mp e with e | e
              · omega
              · rcases List.mem_append.mp e with e | e
                · exact hE e
                · have := List.mem_singleton.mp e; omega
    exact Nat.lt_trans h3 (by decide)
  · have hk : p.key ∈ [kyA, kyB] := by
      rcases key_eq h with e | e <;> rw [e] <;> simp
    have hsg : sg ∈ [32, 9] := by
      rcases hs with e | e <;> rw [e] <;> simp
    refine name_ok (b := false) (bad_keys _ hk _ hsg (b && p.b1, b && p.b2) ?_)
    revert hb
    generalize (b && p.b1) = x
    generalize (b && p.b2) = y
    cases x <;> cases y <;> simp
/-! the name -/
theorem nm_hit : ∀ nm ∈ [nmA, nmB, nmC], isHit ((Sre.forMatch nameCode (S nm).cps 0 0 (S nm).cps.size true false).runFor (4 * (60 + 1))).outcome = true := by decide +kernel
theorem nm_fail : ∀ nm ∈ [nmA, nmB, nmC], ∀ sg ∈ [32, 9], isFail ((Sre.forMatch nameCode (S (nm ++ [sg])).cps 0 0 (S (nm ++ [sg])).cps.size true false).runFor (4 * (60 + 1))).outcome = true := by decide +kernel
theorem nm_loose : ∀ nm ∈ [nmA, nmB, nmC], ∀ bk ∈ [[], [32], [9]], Txt.replace (Txt.replace (Txt.strip (S (nm ++ bk))) (Str.ofString " ") (Str.ofString "")) (Str.ofString "\t") (Str.ofString "") = S nm := by decide +kernel
theorem nm_signs : ∀ nm ∈ [nmA, nmB, nmC], (∀ c ∈ nm, c ≠ 34 ∧ c ≠ 92 ∧ c ≠ 58 ∧ c ≠ 59) ∧ 5 ≤ nm.length ∧ nm.length ≤ 9 := by decide
theorem name_fin {b : Bool} {nm : List Nat} {bl : Int} {sg : Nat} {z : List Nat} {k : Nat} (hn : nm ∈ [nmA, nmB, nmC]) (hs : sg = 32 ∨ sg = 9) (hz : z.take k = nm ++ (if bl = 0 then [sg] else [])) :
    NameOk (nameT b z k) (!(b && decide (bl = 0))) ∧ (nameT b z k).length ≤ 900 ∧ (¬ (b = true ∧ bl = 0) → nameT b z k = S nm) := by
  have hl := (nm_signs nm hn).2.2
  have hsg : sg ∈ [32, 9] := by
    rcases hs with e | e <;> rw [e] <;> simp
  unfold nameT
  rw [hz]
  cases b
  · have e : Txt.replace (Txt.replace (Txt.strip (S (nm ++ (if bl = 0 then [sg] else [])))) (Str.ofString " ") (Str.ofString "")) (Str.ofString "\t") (Str.ofString "") = S nm := nm_loose nm hn _ (by
      by_cases h0 : bl = 0
      · rw [if_pos h0]
        rcases hs with e | e <;> rw [e] <;> simp
      · rw [if_neg h0]; simp)
    rw [if_neg (by decide), e]
    refine ⟨name_ok (b := true) (nm_hit nm hn), by rw [S_len]; omega, fun _ => rfl⟩
  · rw [if_pos rfl]
    by_cases h0 : bl = 0
    · rw [if_pos h0]
      refine ⟨?_, by rw [S_len, List.length_append]; simp; omega, fun h => absurd ⟨rfl, h0⟩ h⟩
      rw [show (!(true && decide (bl = 0))) = false from by simp [h0]]
      exact name_ok (b := false) (nm_fail nm hn sg hsg)
    · rw [if_neg h0, List.append_nil]
      refine ⟨?_, by rw [S_len]; omega, fun _ => rfl⟩
      rw [show (!(true && decide (bl = 0))) = true from by simp [h0]]
      exact name_ok (b := true) (nm_hit nm hn)
end Mine
end
/-! part PlA -/
section
theorem Mine.startPlA : True := by
  w_top off
  exact trivial
local macro_rules | `(tactic| walk_at "pad0") => `(tactic| skip)
open PySem PySem.W PyProof.Rows PySem.Calls PySem.Spec PySem.Builtin PySem.Builtin.Str
set_option Elab.async false
set_option maxRecDepth 100000
namespace Mine
theorem Neut.joins {sep : Nat} (hs : sep ≠ 34 ∧ sep ≠ 92 ∧ sep ≠ 58) : ∀ {l : List (List Nat)}, (∀ x ∈ l, Neut x) → Neut (joinS sep l)
  | [], _ => fun _ _ => rfl
  | [x], h => h x (.head _)
  | x :: y :: r, h => (h x (.head _)).app (Neut.app (a := [sep]) (.plain (by intro c hc; rw [List.mem_singleton.mp hc]; exact hs)) (Neut.joins (l := y :: r) hs fun z hz => h z (.tail _ hz)))
theorem wr_neut {bl : Int} {i : Nat} {p : PD} (h : PDok bl i p) : ∀ x ∈ List.zipWith wrP p.qs p.ts, Neut x := by
  intro x hx
  obtain ⟨q, t, rfl, _, _, hm, hq⟩ := val_at h hx
  unfold wrP
  cases q
  · refine .plain fun d hd => ?_
    obtain ⟨c, hc, hd⟩ := escP_mem hd
    obtain ⟨a1, _, _, a3, _, a4⟩ := escC_mem c (hm c hc) d hd
    obtain ⟨b1, b2, b3, _⟩ := hq rfl c hc
    exact ⟨a1, a3, (a4 ⟨b1, b2, b3⟩).2.2⟩
  · refine .quoted fun d hd => ?_
    obtain ⟨c, hc, hd⟩ := escP_mem hd
    exact (escC_mem c (hm c hc) d hd).1
theorem body_neut {bl : Int} {i sg : Nat} {p : PD} (hs : sg = 32 ∨ sg = 9) (h : PDok bl i p) : Neut (bodyW sg p) := by
  unfold bodyW
  rw [bodyB_pre, show ∀ v : List Nat, preK sg p.b1 p.b2 p.key ++ 61 :: v = (preK sg p.b1 p.b2 p.key ++ [61]) ++ v from fun v => by simp]
  refine Neut.app (.plain fun c hc => ?_) (.joins (by decide) (wr_neut h))
  rcases List.mem_append.mp hc with e | e
  · obtain ⟨a1, _, _, a2, a3, _⟩ := pre_mem hs h c e
    exact ⟨a1, a2, a3⟩
  · rw [List.mem_singleton.mp e]; decide
/-- how many parameters are good -/
theorem good_upto {b : Bool} {bl : Int} {ps : List PD} (h : ∀ (i : Nat) (p : PD), ps[i]? = some p → PDok bl i p) (h0 : 0 ≤ bl) :
    ∃ J, J ≤ ps.length ∧ (∀ (i : Nat) (p : PD), i < J → ps[i]? = some p → (b && p.b1) = false ∧ (b && p.b2) = false) ∧ (∀ p, ps[J]? = some p → (b && p.b1) = true ∨ (b && p.b2) = true) ∧
      ((¬ (b = true ∧ bl < 1 + 2 * (ps.length : Int)) ∧ J = ps.length) ∨ (b = true ∧ bl < 1 + 2 * (ps.length : Int) ∧ (bl = 0 ∨ J < ps.length))) := by
  by_cases hb : b = true ∧ 1 ≤ bl ∧ bl < 1 + 2 * (ps.length : Int)
  · obtain ⟨hb, h1, h2⟩ := hb
    refine ⟨((bl - 1) / 2).toNat, by omega, fun i p hi hp => ?_, fun p hp => ?_, .inr ⟨hb, h2, .inr (by omega)⟩⟩
    · have h9 := h i p hp
      rw [h9.b1, h9.b2, hb, decide_eq_false (by omega), decide_eq_false (by omega)]
      exact ⟨rfl, rfl⟩
    · have h9 := h _ p hp
      rw [h9.b1, h9.b2, hb]
      simp only [Bool.true_and, decide_eq_true_eq]
      omega
  · refine ⟨ps.length, Nat.le_refl _, fun i p hi hp => ?_, fun p hp => ?_, ?_⟩
    · have h9 := h i p hp
      rw [h9.b1, h9.b2]
      cases b with
      | false => exact ⟨rfl, rfl⟩
      | true =>
        have hb2 : ¬ (1 ≤ bl ∧ bl < 1 + 2 * (ps.length : Int)) := fun h => hb ⟨rfl, h⟩
        rw [decide_eq_false (by omega), decide_eq_false (by omega)]
        exact ⟨rfl, rfl⟩
    · rw [List.getElem?_eq_none (Nat.le_refl _)] at hp
      cases hp
    · by_cases h3 : b = true ∧ bl < 1 + 2 * (ps.length : Int)
      · have hb2 : ¬ (1 ≤ bl ∧ bl < 1 + 2 * (ps.length : Int)) := fun h => hb ⟨h3.1, h⟩
        exact .inr ⟨h3.1, h3.2, .inl (by omega)⟩
      · exact .inl ⟨h3, rfl⟩
theorem pp_ok {b : Bool} {bl : Int} {sg : Nat} {ps : List PD} (hs : sg = 32 ∨ sg = 9) (hps : ps.length ≤ 2) (hg : ∀ (i : Nat) (p : PD), ps[i]? = some p → PDok bl i p) {nm tx z : List Nat} (hn : nm ∈ [nmA, nmB, nmC]) (hz : z = outA nm bl sg ps ++ 58 :: escV tx) (hzl : z.length ≤ 80)
    {J : Nat} (hJ : J ≤ ps.length) (hgood : ∀ (i : Nat) (p : PD), i < J → ps[i]? = some p → (b && p.b1) = false ∧ (b && p.b2) = false) (hbad : ∀ p, ps[J]? = some p → (b && p.b1) = true ∨ (b && p.b2) = true) :
    ∃ k v, z.take k = nm ++ (if bl = 0 then [sg] else []) ∧ z.drop (v + 1) = escV tx ∧ PP b z k v (!(b && decide (bl = 0))) (joinS 59 (ps.map (bodyE b sg))) ((ps.take J).map (kuOf b)) := by
  have hmem : ∀ p ∈ ps, ∃ i, PDok bl i p := fun p hp => by
    obtain ⟨i, hi⟩ := List.mem_iff_getElem?.mp hp
    exact ⟨i, hg i p hi⟩
  obtain ⟨hsg, hn5, hn9⟩ := nm_signs nm hn
  generalize hhd : nm ++ (if bl = 0 then [sg] else []) = hd
  generalize hmid : (ps.map (parT sg)).flatten = mid
  have hz1 : z = hd ++ (mid ++ 58 :: escV tx) := by
    rw [hz, ← hhd, ← hmid]; simp [outA]
  have hz2 : z = (hd ++ mid) ++ 58 :: escV tx := by rw [hz1, List.append_assoc]
  have hz3 : z = ((hd ++ mid) ++ [58]) ++ escV tx := by rw [hz2]; simp
  have hhl : nm.length ≤ hd.length := by rw [← hhd]; simp
  have hm1 : mid.drop 1 = joinS 59 (ps.map (bodyW sg)) ∧ (mid = [] ∨ ∃ r, mid = 59 :: r ∧ Neut r) ∧ mid.length ≠ 1 := by
    rw [← hmid]
    cases ps with
    | nil => exact ⟨rfl, .inl rfl, by simp⟩
    | cons p l =>
      rw [parts_flat]
      have hN : Neut (joinS 59 ((p :: l).map (bodyW sg))) := .joins (by decide) fun x hx => by
        obtain ⟨q, hq, rfl⟩ := List.mem_map.mp hx
        obtain ⟨i, hi⟩ := hmem q hq
        exact body_neut hs hi
      refine ⟨rfl, .inr ⟨_, rfl, hN⟩, fun e => ?_⟩
      have h61 : 61 ∈ joinS 59 ((p :: l).map (bodyW sg)) := joinS_mem (List.mem_map.mpr ⟨p, .head _, rfl⟩) (by rw [bodyW, bodyB_pre]; simp)
      have : joinS 59 ((p :: l).map (bodyW sg)) = [] := by
        rw [List.length_cons] at e
        exact List.length_eq_zero_iff.mp (by omega)
      rw [this] at h61
      cases h61
  obtain ⟨hx1, hx2, hx3⟩ := hm1
  have hzlen : z.length = hd.length + mid.length + 1 + (escV tx).length := by rw [hz2]; simp; omega
  have htk : z.take hd.length = hd := by rw [hz1]; exact List.take_left' rfl
  have htv : z.take (hd.length + mid.length) = hd ++ mid := by rw [hz2]; exact List.take_left' (by simp)
  have hdv : z.drop (hd.length + mid.length + 1) = escV tx := by rw [hz3]; exact List.drop_left' (by simp; omega)
  have hdk : (z.take (hd.length + mid.length)).drop (hd.length + 1) = joinS 59 (ps.map (bodyW sg)) := by
    rw [htv, ← hx1, ← List.drop_drop, List.drop_left' rfl]
  have hjl : (joinS 59 (ps.map (bodyW sg))).length ≤ 80 := by
    rw [← hx1, List.length_drop]; omega
  obtain ⟨n1, n2, n3⟩ := name_fin (b := b) (z := z) (k := hd.length) hn hs (htk.trans hhd.symm)
  obtain ⟨x1, x2, x3, x4⟩ := px_ok (b := b) hs hmem hdk hjl
  have hq := qs59 (b := b) hs hmem
  obtain ⟨s1, s2⟩ := sp_line (hd := hd) (mid := mid) (tl := escV tx) (by
    rw [← hhd]
    intro c hc
    rcases List.mem_append.mp hc with e | e
    · exact hsg c e
    · have h0 : c = sg := by
        by_cases h0 : bl = 0
        · rw [if_pos h0] at e; exact List.mem_singleton.mp e
        · rw [if_neg h0] at e; cases e
      omega) hx2
  rw [← hz1] at s1 s2
  have hsub : (ps.take J).Sublist ps := List.take_sublist J ps
  have hmemJ : ∀ q ∈ (ps.take J).map (kuOf b), ∃ i p, PDok bl i p ∧ q = kuOf b p := fun q hq => by
    obtain ⟨p, hp, rfl⟩ := List.mem_map.mp hq
    obtain ⟨i, hi⟩ := hmem p (hsub.subset hp)
    exact ⟨i, p, hi, rfl⟩
  have hkl : ((ps.take J).map (kuOf b)).length = J := by rw [List.length_map, List.length_take]; omega
  refine ⟨hd.length, hd.length + mid.length, htk, hdv, ?_⟩
  exact {
    hk0 := by omega
    hkv := by omega
    hvz := by omega
    hkv1 := by omega
    hnm := n1
    hnml := n2
    h92 := x1
    hrl9 := x2
    hpx := x3
    hpxl := x4
    HN := by rw [hq, hkl, List.length_map]; exact hJ
    HK := fun i p' hi hp' => by
      rw [hkl] at hi
      rw [hq, List.getElem?_map] at hp'
      cases hp : ps[i]? with
      | none => rw [hp] at hp'; cases hp'
      | some p =>
        rw [hp] at hp'
        cases hp'
        refine ⟨kuOf b p, ?_, ?_⟩
        · rw [List.getElem?_map, List.getElem?_take, if_pos hi, hp]; rfl
        · obtain ⟨g1, g2⟩ := hgood i p hi hp
          exact turn_ok hs (hg i p hp) g1 g2
    HBad := fun p' hp' => by
      rw [hkl, hq, List.getElem?_map] at hp'
      cases hp : ps[J]? with
      | none => rw [hp] at hp'; cases hp'
      | some p =>
        rw [hp] at hp'
        cases hp'
        exact bad_ok hs (hg J p hp) (hbad p hp)
    hnd := by
      rw [List.map_map]
      exact (key_nodup hps hg key_dist.1).sublist (hsub.map _)
    hul := fun q hq => by
      obtain ⟨i, p, hi, rfl⟩ := hmemJ q hq
      exact ⟨(ku_len hi).1, (ku_uv hi).2⟩
    hnd2 := by
      rw [List.map_map]
      exact (key_nodup hps hg (g := fun x => Txt.upper (unT (Txt.upper x))) (fun e => key_dist.1 (by rw [← key_up.1, ← key_up.2]; exact e))).sublist (hsub.map _)
    hkl2 := fun q hq => by
      obtain ⟨i, p, hi, rfl⟩ := hmemJ q hq
      exact (ku_len hi).2
    hxl2 := by rw [hkl]; omega
    hns := s1
    hvs := s2 }
theorem pure_ok {w : World} {L : Addr} {oA : Obj} : ∀ b nm bl sg ps tx z m nw, P7 w L oA b nm bl sg ps tx z m nw → PureOk b nm bl ps tx z := by
  intro b nm bl sg ps tx z m nw p7
  obtain ⟨J, hJ, hgood, hbad, hres⟩ := good_upto (b := b) p7.good p7.bl0
  obtain ⟨k, v, h1, h2, P⟩ := pp_ok p7.sgOk p7.psl p7.good p7.nmOk p7.zeq p7.zlen.2 hJ hgood hbad
  have hmem : ∀ p ∈ ps, ∃ i, PDok bl i p := fun p hp => by
    obtain ⟨i, hi⟩ := List.mem_iff_getElem?.mp hp
    exact ⟨i, p7.good i p hi⟩
  have hq := qs59 (b := b) p7.sgOk hmem
  refine ⟨k, v, _, _, _, P, ?_⟩
  rcases hres with ⟨r1, rfl⟩ | ⟨r1, r2, r3⟩
  · refine .inl ⟨?_, ?_, r1, ?_, ?_, ?_⟩
    · cases b with
      | false => rfl
      | true =>
        have : bl ≠ 0 := fun e => r1 ⟨rfl, by omega⟩
        simp [this]
    · rw [hq, List.length_map, List.length_map, List.take_length]
    · exact (name_fin (b := b) p7.nmOk p7.sgOk h1).2.2 fun e => r1 ⟨e.1, by omega⟩
    · rw [h2, ub_escV p7.txm]
    · rw [List.take_length, List.map_map]
      refine List.map_congr_left fun p hp => ?_
      obtain ⟨i, hi⟩ := hmem p hp
      exact ku_due hi
  · refine .inr ⟨?_, r1, r2⟩
    rcases r3 with h0 | hj
    · exact .inl (by rw [r1, h0]; rfl)
    · refine .inr ?_
      rw [hq, List.length_map, List.length_map, List.length_take]
      omega
end Mine
end
/-! part Fin -/
section
theorem Mine.startFin : True := by
  w_top off
  exact trivial
open PySem PySem.W PyProof.Rows PySem.Calls PySem.Spec
set_option Elab.async false
set_option maxRecDepth 100000
set_option pp.deepTerms false
set_option pp.maxSteps 400
namespace Mine
/-- how the law ends: told true, nothing old changed but the two tables -/
structure Ended (s₁ : Shared) (r : Result) (s' : Shared) : Prop where
  res : r = .ok (.ret (.bool true))
  keep : ∀ b o, (ghostOf s₁.heap tbs).get? b = some o → s'.heap.get? b = some o
  t1 : ∃ p, s'.heap.get? 216 = some (tabObj p)
  t2 : ∃ p, s'.heap.get? 354 = some (tabObj p)
  os : s'.os = s₁.os
  gens : AllBare s'.gens
theorem Ended.tab {s₁ : Shared} {r : Result} {s' : Shared} (e : Ended s₁ r s') {b : Addr} (h : b = 216 ∨ b = 354) : ∃ p, s'.heap.get? b = some (tabObj p) := by
  rcases h with rfl | rfl
  · exact e.t1
  · exact e.t2
theorem tbs_mem {b : Addr} (h : b = 216 ∨ b = 354) : ∃ q ∈ tbs, q.2 = b := by
  rcases h with rfl | rfl
  · exact ⟨(220, 216), by simp, rfl⟩
  · exact ⟨(358, 354), by simp, rfl⟩
theorem Ended.old {s₁ : Shared} {r : Result} {s' : Shared} (e : Ended s₁ r s') (hT : TabsAt tbs s₁.heap) : OldK s₁.heap s'.heap := by
  have hk : ∀ b o, s₁.heap.get? b = some o → ¬ (b = 216 ∨ b = 354) → s'.heap.get? b = some o := fun b o h hn =>
    e.keep b o (ghost_ne h (by simpa using hn))
  refine ⟨fun b o h => ?_, fun b o h => ?_⟩
  · by_cases hb : b = 216 ∨ b = 354
    · obtain ⟨q, hq, rfl⟩ := tbs_mem hb
      obtain ⟨p, hp⟩ := e.tab hb
      obtain ⟨hc, ht⟩ := hT q hq
      have ho : o = tabObj #[] := Option.some.inj (h.symm.trans ht)
      subst ho
      exact .inr (.inl ⟨(hc.tab ht).isCodeTable, rfl, #[], p, rfl, by rw [Array.empty_append]; exact hp⟩)
    · exact .inl (hk b o h hb)
  · by_cases hb : b = 216 ∨ b = 354
    · obtain ⟨p, hp⟩ := e.tab hb
      exact ⟨_, hp⟩
    · exact ⟨o, hk b o h hb⟩
theorem Fr.congr {h₀ h : Heap} {L : Addr} {m m' : Str → Option Value} (F : Fr h₀ L h m) (e : m = m') : Fr h₀ L h m' := e ▸ F
set_option maxHeartbeats 4000000 in
theorem law_all : PySem.Challenge.rw_bl0007_01.Holds := hd (by
  k_fill
  intro w s₀ s₁ mg mb G Y fa o pm cd doc dV kV ho hd hcd hD hmg hg args vals as hpre hlay hrd hwl hlo
  have KX := kIn_of Y
  have hT9 := tbs_at KX
  have X := (Ground.X G).1
  have V := (Ground.X G).2
  refine Ground.open G ?_
  intro T B D TE TW
  try (refine guard_noD D (by decide +kernel) ?_; clear D)
  clear hmg
  wrow_args hpre hlay hrd hwl hlo
  all_goals (
    first | refine callC_kw (enter_call ?_) | refine enter_call ?_
    w_top on
    refine codeAny_mono (R := Ended s₁) ?_ ?post
    case post =>
      intro r s' e
      refine ⟨.inl ⟨.bool true, .bool true, [], e.res, fun _ => rfl, .bool true, ?_, fun _ => ⟨.nil, fun _ h => nomatch h⟩⟩, e.old hT9, e.os, e.gens⟩
      wrow_post
    w_call any ho hd hcd hD T F
    clear hd
    clear hcd
    clear hD
    clear ho
    refine LawAt.out (w := w) (k := 0) ?_
    have hTg := top_ghost hT9 (by decide) (K0_sub KX) T
    rename News _ _ _ _ => N0
    have hNg : News (ghostOf s₁.heap tbs) s₁.heap.objs.size _ [_, _, _, (216, tabObj #[]), (354, tabObj #[])] := ghost_news hT9 F N0
    have F9 := ghost_fr hT9 F
    refine' law_w (h₀ := ghostOf s₁.heap tbs) (mg := mg) (mb := mb) (ghost_below hT9) (K0_ghost KX) hTg ?F hNg ?dA ?dB ?dC ?hg (ghost_list hT9 (by assumption)) (by assumption) (by assumption) ?hc ?hT2 pure_ok ?hret
    case hg => assumption
    case hT2 => exact ⟨ghost_lt hT9 F (216, tabObj #[]) (by simp [tabNews]), ghost_lt hT9 F (354, tabObj #[]) (by simp [tabNews])⟩
    case hret =>
      intro h' tk gs m' p1 p2 F' G' e1 e2
      exact ⟨⟨rfl, F'.keep, ⟨p1, e1⟩, ⟨p2, e2⟩, rfl, G'⟩⟩
    case hc => assumption
    case F =>
      refine Fr.congr F9 ?_
      rfl
    case dA => rename_i a b c x0; exact a.trans rfl
    case dB => rename_i a b c x0; exact b.trans rfl
    case dC => rename_i a b c x0; exact c.trans rfl))
end Mine
end
theorem PySem.Challenge.cw_bl0007_01_holds : PySem.Challenge.rw_bl0007_01.Holds :=
  Mine.law_all
